-- Written by hprint.py (this session's program, over the kit's printing program, with this session's own contracts in it). Not trusted: Lean checks it.
import Derived.Test.YtjhdnapgdajllaaDoorPFnSetDecodex0
namespace Go.Proofs.YtjhdnapgdajllaaDoor.PFnSetDecode
open Go.RowKit Go.Proofs.YtjhdnapgdajllaaDoorW.PrintWords Go.Proofs.YtjhdnapgdajllaaDoorW.PrintLast Go.Proofs.YtjhdnapgdajllaaDoorW.PrintMore
attribute [local go_sem] max2_int min2_int max_two min_two max_three min_three max_four min_four   -- for this text's walks alone
set_option linter.unusedVariables false
set_option linter.unusedSimpArgs false

-- NOT PRINTED: function 69 (avl_node_exists)

-- NOT PRINTED: function 48 (avl_SequenceSet_Exists)

-- NOT PRINTED: function 70 (avl_node_set)

-- NOT PRINTED: function 82 (avl_maxH)

-- NOT PRINTED: function 83 (avl_balanceF)

-- NOT PRINTED: function 84 (avl_node_rotateL)

-- NOT PRINTED: function 85 (avl_node_rotateR)

-- NOT PRINTED: function 71 (avl_node_insert)

-- NOT PRINTED: function 51 (avl_SequenceSet_Insert)

-- NOT PRINTED: function 86 (avl_node_clear)

-- NOT PRINTED: function 87 (avl_node_insertNodePrev)

-- NOT PRINTED: function 72 (avl_node_delete)

-- NOT PRINTED: function 73 (avl_SequenceSet_Empty)

-- NOT PRINTED: function 52 (avl_SequenceSet_Delete)

-- NOT PRINTED: function 36 (impl_change)

-- NOT PRINTED: function 30 (impl_set)

-- NOT PRINTED: function 64 (bits_TrailingZeros64)

-- NOT PRINTED: function 49 (avl_node_iter)

-- NOT PRINTED: function 31 (avl_SequenceSet_Range)

/-! ### impl_SetFirst: function 15 -/
-- WORLD YtjhdnapgdajllaaDoor.SetDecY.DecLaid
section
open _root_.Go.Proofs.YtjhdnapgdajllaaDoor.SetW _root_.Go.Proofs.YtjhdnapgdajllaaDoor.SetDecY
def impl_SetFirst.acts (l : List S34) : List (Int × Int) := l.map (fun a => (a.f0, a.f1))
def impl_SetFirst.okB (l : List S34) : Bool := l.all (fun a => (a.f0 == 0 || a.f0 == 1) && (decide (0 ≤ a.f1) && decide (a.f1 < (top64 : Int))))
theorem impl_SetFirst.formed {l : List S34} (h : impl_SetFirst.okB l = true) : Formed (impl_SetFirst.acts l) := by
  intro a ha
  obtain ⟨b, hb, rfl⟩ := List.mem_map.1 ha
  have := List.all_eq_true.1 h b hb
  simp only [Bool.and_eq_true, Bool.or_eq_true, beq_iff_eq, decide_eq_true_eq] at this
  exact ⟨this.1, this.2.1, this.2.2⟩
theorem impl_SetFirst.actsAt {w : World} {A : Option Addr} {l : List S34} (h : Kd.C k34 w A l.length l) : ActsAt w A (impl_SetFirst.acts l) := by
  intro i hi
  rw [impl_SetFirst.acts, List.length_map] at hi
  obtain ⟨ad, e, h1, h2⟩ := at_T34 h (i : Int) (by omega) (by omega)
  have e1 : (impl_SetFirst.acts l).getD i (0, 0) = ((rd_T34 l (i : Int)).f0, (rd_T34 l (i : Int)).f1) := by
    simp [impl_SetFirst.acts, rd_T34, List.getD_eq_getElem?_getD, List.getElem?_map, List.getElem?_eq_getElem hi]
  rw [e1]
  exact ⟨ad, e, h1, h2⟩
def impl_SetFirst.f (l0 : List (S34)) (a1 : Int) : Option (List Int) := if impl_SetFirst.okB l0 = true ∧ l0.length ≤ 9000 ∧ 1 ≤ a1 then some (((actsL [] (impl_SetFirst.acts l0)).take a1.toNat).map (fun n : Nat => (n : Int))) else none
theorem impl_SetFirst.calls (A0 : Option Addr) (c0 : Nat) (l0 : List (S34)) (a1 : Int) (r : List Int) (w : World) (hr0 : Kd.C k34 w A0 l0.length l0) (hc0 : l0.length ≤ c0) (h : impl_SetFirst.f l0 a1 = some r) (hE : DecLaid w) :
    Calls Tryd.prog 15 #[.slice A0 l0.length c0, .int .i64 a1] w fun e w' => ∃ v0_ : Value, e = .returned (v0_) ∧ Kd.R (Kd.int .u64) 32 w' w.heap.size (fun _ => True) v0_ r ∧ Below w.heap.size w w' := by
  unfold impl_SetFirst.f at h
  split at h
  · rename_i hc
    obtain rfl := Option.some.inj h
    have := SetFirst_walk A0 c0 (impl_SetFirst.acts l0) a1 w (impl_SetFirst.actsAt hr0) (by rw [impl_SetFirst.acts, List.length_map]; exact hc0) (impl_SetFirst.formed hc.1) (by rw [impl_SetFirst.acts, List.length_map]; exact hc.2.1) hc.2.2 hE.tab
    rw [show (impl_SetFirst.acts l0).length = l0.length from List.length_map _] at this
    exact this
  · cases h
end


/-! ### laws_awakeSet: function 12 -/
def laws_awakeSet.f  : Option (Bool) := (impl_SetFirst.f (([(⟨0, 7⟩ : S34)] : List (S34))) 2).bind fun t104 => (if (t104.length : Int) = 1 then (if 0 < (t104.length : Int) then (some ((rd t104 0) == 7)) else (none)) else (some false))
set_option maxHeartbeats 8000000 in
set_option maxRecDepth 100000 in
theorem laws_awakeSet.calls  (r : Bool) (w : World) (h : laws_awakeSet.f  = some r) (hE_ : Go.Proofs.YtjhdnapgdajllaaDoor.SetDecY.DecLaid w) :
    Calls Tryd.prog 12 #[] w fun e w' => e = .returned (.bool r) ∧ Below w.heap.size w w' := by
  have HE_ := Aside0.mk hE_
  clear hE_
  have hu34 := Tryd.underlying34
  have HB := Aside0.mk (Below.refl w.heap.size w)
  have H : ((impl_SetFirst.f (([(⟨0, 7⟩ : S34)] : List (S34))) 2).bind fun t104 => (if (t104.length : Int) = 1 then (if 0 < (t104.length : Int) then (some ((rd t104 0) == 7)) else (none)) else (some false))) = some r := h
  clear h
  obtain ⟨y101, hy101⟩ : ∃ y_ : List (S34), y_ = (([(⟨0, 7⟩ : S34)] : List (S34))) := ⟨_, rfl⟩
  replace H : ((impl_SetFirst.f y101 2).bind fun t104 => (if (t104.length : Int) = 1 then (if 0 < (t104.length : Int) then (some ((rd t104 0) == 7)) else (none)) else (some false))) = some r := by first | (rw [hy101]; with_reducible exact H) | (have H2_ := (Option.bind_some _ _).symm.trans H; rw [hy101]; with_reducible exact H2_) | (have H2_ := (Option.bind_some _ _).symm.trans H; with_reducible exact H2_) | with_reducible exact H | (rw [hy101]; exact H) | exact H
  have Ny101 := Aside0.mk hy101
  clear hy101
  replace H := Option.bind_eq_some_iff.mp H
  obtain ⟨t104, A10, H⟩ := H
  replace H : (if (t104.length : Int) = 1 then (if 0 < (t104.length : Int) then (some ((rd t104 0) == 7)) else (none)) else (some false)) = some r := H
  have A1 := Aside0.mk A10
  clear A10
  by_cases c2 : (t104.length : Int) = 1
  · rw [if_pos c2] at H
    have c2b0 : ((t104.length : Int) == 1) = true := beq_iff_eq.mpr c2
    have c2b1 : ((t104.length : Int) != 1) = false := bne_eq_false_iff_eq.mpr c2
    clear c2
    by_cases c3 : 0 < (t104.length : Int)
    · rw [if_pos c3] at H
      have c3b0 : decide (0 < (t104.length : Int)) = true := decide_eq_true c3
      have c3b1 : decide (0 < t104.length) = true := decide_eq_true (by omega)
      clear c3
      obtain rfl := Option.some.inj H
      go_enter Tryd.func12, Tryd.ntmps12
      go_wp2_with (first | ((with_reducible refine gate_dst (N := 3) rfl ?_); refine Kd.R_lit k34 _ 34 ?hg (N := 3) ?hd (xs := ([(⟨0, 7⟩ : S34)] : List (S34))) (inner := [.int .i64 0, .int .u64 7]) (ok := fun _ => True) (okp := fun _ => True) ?hr ?hp (fun _ hk => hk) trivial (Below.refl _ _) (Nat.le_refl _) (by simp) ?_; (case hd => rfl); (case hg => rfl); (case hr => first | (go_simp; done) | (go_simp; rfl)); (case hp => exact (Reps.c2 (show Kd.M k34 _ _ _ (⟨0, 7⟩ : S34) [.int .i64 0, .int .u64 7] from (k34_mkM _ _ _ (⟨0, 7⟩ : S34) )) (Reps.none _ _))); intro v102 w4 ho5 hb hg_ hnew_; clear hg_ hnew_; (first | rw [← Ny101.out] at ho5 | (simp only [Int.reduceToNat] at ho5; rw [← Ny101.out] at ho5)); have n0_ := Aside0.mk (Kd.R_lower ho5 (below_size (by repeat (first | (with_reducible first | exact HB.out | apply below_alloc | apply pw_below_drewN | apply below_drew1) | exact HB.out)))); have n1_ := Aside0.mk (below_step (by repeat (first | (with_reducible first | exact HB.out | apply below_alloc | apply pw_below_drewN | apply below_drew1) | exact HB.out)) hb); clear HB; have HO103 := n0_; have HB := n1_; clear n0_ n1_; clear hb ho5; obtain ⟨Ao6, co6, eo6⟩ := Kd.R_slice HO103.out; subst eo6) | ((with_reducible refine gate_callee (f := 15) rfl ?_); refine goesL_ (some 4) rfl rfl Tryd.func15 (by kernel_rfl) rfl #[.slice Ao6 y101.length co6, .int .i64 2] rfl (by (try simp only [List.map_toArray, List.map_cons, List.map_nil]); first | done | rfl | (simp only [List.length_drop, List.length_take]; rfl)) ?_; (with_reducible refine (impl_SetFirst.calls _ _ y101 2 t104 _ ?side1 ?side2 A1.out (HE_.out.below (by repeat (first | (with_reducible first | exact HB.out | apply below_alloc | apply pw_below_drewN | apply below_drew1) | exact HB.out)))).mono ?_); (case side1 => repeat (first | exact (Kd.R_reads' HO103.out).2.2 | (with_reducible refine Kd.C_alloc ?_ _) | (with_reducible refine Kd.C_drewN ?_ _) | (with_reducible refine Kd.C_drew ?_))); (case side2 => exact (Kd.R_reads' HO103.out).2.1); rintro e w7 ⟨v105, rfl, ho0, hb⟩; refine ⟨_, rfl, ?_⟩; have n0_ := Aside0.mk (Kd.R_below (by (with_reducible repeat (first | apply Kd.R_alloc | apply Kd.R_drewN | apply Kd.R_drew)); exact HO103.out) hb); have n1_ := Aside0.mk (Kd.R_lower ho0 (below_size (by repeat (first | (with_reducible first | exact HB.out | apply below_alloc | apply pw_below_drewN | apply below_drew1) | exact HB.out)))); have n2_ := Aside0.mk (below_step (by repeat (first | (with_reducible first | exact HB.out | apply below_alloc | apply pw_below_drewN | apply below_drew1) | exact HB.out)) hb); clear HO103; clear HB; have HO103 := n0_; have HO106 := n1_; have HB := n2_; clear n0_ n1_ n2_; (try clear hb); (try clear hb2); (try clear hk); (try clear hi); (try clear ho0); obtain ⟨Ao8, co8, eo8⟩ := Kd.R_slice HO106.out; subst eo8; have p107 : 0 ≤ (0 : Int) := (by omega); have q107 : 0 < (t104.length : Int) := of_decide_eq_true (by first | (with_reducible assumption) | assumption); obtain ⟨ad107, e107, hx107_0⟩ := Kd.at_int (Kd.R_reads' HO106.out).2.2 0 p107 q107; cases e107; have qi107 : (0 < t104.length) = True := eq_true (by omega); (try rw [show ((0 : Int)).toNat = 0 from rfl] at hx107_0); (try rw [Addr.add_zero'] at hx107_0); replace p107 := eq_true p107; replace q107 := eq_true q107))
      go_ret
      exact ⟨by first | rfl | (simp [errW_none, errW_some] <;> rfl) | (simp [*, errW_none, errW_some] <;> rfl) | (simp [errW_none, errW_some]; generalize ByteArray.toList _ = l_; cases l_ <;> rfl), by repeat (first | (with_reducible first | exact HB.out | apply below_alloc | apply pw_below_drewN | apply below_drew1) | exact HB.out)⟩
    · rw [if_neg c3] at H
      exact absurd H (by simp)
  · rw [if_neg c2] at H
    have c2b0 : ((t104.length : Int) == 1) = false := beq_eq_false_iff_ne.mpr c2
    have c2b1 : ((t104.length : Int) != 1) = true := bne_iff_ne.mpr c2
    obtain rfl := Option.some.inj H
    go_enter Tryd.func12, Tryd.ntmps12
    go_wp2_with (first | ((with_reducible refine gate_dst (N := 3) rfl ?_); refine Kd.R_lit k34 _ 34 ?hg (N := 3) ?hd (xs := ([(⟨0, 7⟩ : S34)] : List (S34))) (inner := [.int .i64 0, .int .u64 7]) (ok := fun _ => True) (okp := fun _ => True) ?hr ?hp (fun _ hk => hk) trivial (Below.refl _ _) (Nat.le_refl _) (by simp) ?_; (case hd => rfl); (case hg => rfl); (case hr => first | (go_simp; done) | (go_simp; rfl)); (case hp => exact (Reps.c2 (show Kd.M k34 _ _ _ (⟨0, 7⟩ : S34) [.int .i64 0, .int .u64 7] from (k34_mkM _ _ _ (⟨0, 7⟩ : S34) )) (Reps.none _ _))); intro v102 w9 ho10 hb hg_ hnew_; clear hg_ hnew_; (first | rw [← Ny101.out] at ho10 | (simp only [Int.reduceToNat] at ho10; rw [← Ny101.out] at ho10)); have n0_ := Aside0.mk (Kd.R_lower ho10 (below_size (by repeat (first | (with_reducible first | exact HB.out | apply below_alloc | apply pw_below_drewN | apply below_drew1) | exact HB.out)))); have n1_ := Aside0.mk (below_step (by repeat (first | (with_reducible first | exact HB.out | apply below_alloc | apply pw_below_drewN | apply below_drew1) | exact HB.out)) hb); clear HB; have HO103 := n0_; have HB := n1_; clear n0_ n1_; clear hb ho10; obtain ⟨Ao11, co11, eo11⟩ := Kd.R_slice HO103.out; subst eo11) | ((with_reducible refine gate_callee (f := 15) rfl ?_); refine goesL_ (some 4) rfl rfl Tryd.func15 (by kernel_rfl) rfl #[.slice Ao11 y101.length co11, .int .i64 2] rfl (by (try simp only [List.map_toArray, List.map_cons, List.map_nil]); first | done | rfl | (simp only [List.length_drop, List.length_take]; rfl)) ?_; (with_reducible refine (impl_SetFirst.calls _ _ y101 2 t104 _ ?side1 ?side2 A1.out (HE_.out.below (by repeat (first | (with_reducible first | exact HB.out | apply below_alloc | apply pw_below_drewN | apply below_drew1) | exact HB.out)))).mono ?_); (case side1 => repeat (first | exact (Kd.R_reads' HO103.out).2.2 | (with_reducible refine Kd.C_alloc ?_ _) | (with_reducible refine Kd.C_drewN ?_ _) | (with_reducible refine Kd.C_drew ?_))); (case side2 => exact (Kd.R_reads' HO103.out).2.1); rintro e w12 ⟨v105, rfl, ho0, hb⟩; refine ⟨_, rfl, ?_⟩; have n0_ := Aside0.mk (Kd.R_below (by (with_reducible repeat (first | apply Kd.R_alloc | apply Kd.R_drewN | apply Kd.R_drew)); exact HO103.out) hb); have n1_ := Aside0.mk (Kd.R_lower ho0 (below_size (by repeat (first | (with_reducible first | exact HB.out | apply below_alloc | apply pw_below_drewN | apply below_drew1) | exact HB.out)))); have n2_ := Aside0.mk (below_step (by repeat (first | (with_reducible first | exact HB.out | apply below_alloc | apply pw_below_drewN | apply below_drew1) | exact HB.out)) hb); clear HO103; clear HB; have HO103 := n0_; have HO106 := n1_; have HB := n2_; clear n0_ n1_ n2_; (try clear hb); (try clear hb2); (try clear hk); (try clear hi); (try clear ho0); obtain ⟨Ao13, co13, eo13⟩ := Kd.R_slice HO106.out; subst eo13))
    go_ret
    exact ⟨by first | rfl | (simp [errW_none, errW_some] <;> rfl) | (simp [*, errW_none, errW_some] <;> rfl) | (simp [errW_none, errW_some]; generalize ByteArray.toList _ = l_; cases l_ <;> rfl), by repeat (first | (with_reducible first | exact HB.out | apply below_alloc | apply pw_below_drewN | apply below_drew1) | exact HB.out)⟩

-- NOT PRINTED: function 37 (impl_all)

-- NOT PRINTED: function 41 (avl_SequenceSet_Size)

-- NOT PRINTED: function 75 (binary_littleEndian_Uint32)

-- NOT PRINTED: function 76 (binary_littleEndian_Uint64)

-- NOT PRINTED: function 56 (avl_decodev1)

-- NOT PRINTED: function 77 (binary_littleEndian_Uint16)

-- NOT PRINTED: function 78 (avl_SequenceSet_insertNode)

-- NOT PRINTED: function 57 (avl_decodev2)

-- NOT PRINTED: function 42 (avl_Decode)

/-! ### impl_copied: function 43 -/
def impl_copied.f (l0 : List Int) : Option (List Int) := (some (([] : List Int) : List Int)).bind fun y108 => (if y108.length + l0.length < 140737488355328 then (some (y108 ++ l0)) else (none))
set_option maxHeartbeats 8000000 in
set_option maxRecDepth 100000 in
theorem impl_copied.calls (A0 : Option Addr) (c0 : Nat) (l0 : List Int) (r : List Int) (w : World) (hr0 : Kd.C (Kd.int .u8) w A0 l0.length l0) (hc0 : l0.length ≤ c0) (h : impl_copied.f l0 = some r) :
    Calls Tryd.prog 43 #[.slice A0 l0.length c0] w fun e w' => ∃ v0_ : Value, e = .returned (v0_) ∧ Kd.R (Kd.int .u8) 5 w' w.heap.size (fun _ => True) v0_ r ∧ Below w.heap.size w w' := by
  have HR0 := Aside0.mk hr0
  have HC0 := Aside0.mk hc0
  clear hr0 hc0
  have HB := Aside0.mk (Below.refl w.heap.size w)
  have H : ((some (([] : List Int) : List Int)).bind fun y108 => (if y108.length + l0.length < 140737488355328 then (some (y108 ++ l0)) else (none))) = some r := h
  clear h
  obtain ⟨y108, hy108⟩ : ∃ y_ : List Int, y_ = (([] : List Int)) := ⟨_, rfl⟩
  replace H : (if y108.length + l0.length < 140737488355328 then (some (y108 ++ l0)) else (none)) = some r := by first | (rw [hy108]; with_reducible exact H) | (have H2_ := (Option.bind_some _ _).symm.trans H; rw [hy108]; with_reducible exact H2_) | (have H2_ := (Option.bind_some _ _).symm.trans H; with_reducible exact H2_) | with_reducible exact H | (rw [hy108]; exact H) | exact H
  have Ny108 := Aside0.mk hy108
  clear hy108
  by_cases c2 : y108.length + l0.length < 140737488355328
  · rw [if_pos c2] at H
    have LMc2 := Aside0.mk c2
    clear c2
    obtain ⟨y111, hy111⟩ : ∃ y_ : List Int, y_ = (y108 ++ l0) := ⟨_, rfl⟩
    replace H : (some y111) = some r := by first | (rw [hy111]; with_reducible exact H) | (have H2_ := (Option.bind_some _ _).symm.trans H; rw [hy111]; with_reducible exact H2_) | (have H2_ := (Option.bind_some _ _).symm.trans H; with_reducible exact H2_) | with_reducible exact H | (rw [hy111]; exact H) | exact H
    have Ny111 := Aside0.mk hy111
    clear hy111
    obtain rfl := Option.some.inj H
    go_enter Tryd.func43, Tryd.ntmps43
    go_wp2_with (first | ((with_reducible refine gate_dst (N := 3) rfl ?_); refine Kd.R_lit (Kd.int .u8) _ 5 ?hg (N := 3) ?hd (xs := ([] : List Int)) (inner := []) (ok := fun _ => True) (okp := fun _ => True) ?hr ?hp (fun _ hk => hk) trivial (Below.refl _ _) (Nat.le_refl _) (by simp) ?_; (case hd => rfl); (case hg => rfl); (case hr => first | (go_simp; done) | (go_simp; rfl)); (case hp => exact (Reps.none _ _)); intro v109 w3 ho4 hb hg_ hnew_; clear hg_ hnew_; (first | rw [← Ny108.out] at ho4 | (simp only [Int.reduceToNat] at ho4; rw [← Ny108.out] at ho4)); have n0_ := Aside0.mk (Kd.R_lower ho4 (below_size (by repeat (first | (with_reducible first | exact HB.out | apply below_alloc | apply pw_below_drewN | apply below_drew1) | exact HB.out)))); have n1_ := Aside0.mk (below_step (by repeat (first | (with_reducible first | exact HB.out | apply below_alloc | apply pw_below_drewN | apply below_drew1) | exact HB.out)) hb); clear HB; have HO110 := n0_; have HB := n1_; clear n0_ n1_; clear hb ho4) | ((with_reducible refine gate_builtin (b := .append) (xs := #[.tmp 3, .tmp 4]) rfl ?_); at_builtin; refine Kd.R_append_rows (Kd.int .u8) (w0 := w) w.heap.size rfl (.tmp 3) (.tmp 4) 47 5 (.int .u8 0) 1 rfl Tryd.underlying47 info5 rfl (by decide) (by omega) v109 y108 l0 _ _ _ (fun _ => True) (fun _ => False) rfl rfl ?aO ?aR (fun _ _ h => h) (fun _ h => h.elim) ?aF ?aB ?aS ?aL ?_; (case aR => repeat (first | exact (Kd.C_below HR0.out HB.out) | (with_reducible refine Kd.C_alloc ?_ _) | (with_reducible refine Kd.C_drewN ?_ _) | (with_reducible refine Kd.C_drew ?_))); (case aB => exact (by repeat (first | (with_reducible first | exact HB.out | apply below_alloc | apply pw_below_drewN | apply below_drew1) | exact HB.out))); (case aF => exact (fun _ _ => trivial)); (case aO => exact (by (with_reducible repeat (first | apply Kd.R_alloc | apply Kd.R_drewN | apply Kd.R_drew)); exact HO110.out)); (case aS => exact (below_size (by repeat (first | (with_reducible first | exact HB.out | apply below_alloc | apply pw_below_drewN | apply below_drew1) | exact HB.out)))); (case aL => have := LMc2.out; omega); intro v112 w5 ho hb hg hat; rw [← Ny111.out] at ho; have n0_ := Aside0.mk (hb); have n1_ := Aside0.mk (ho); clear HB; clear HO110; have HB := n0_; have HO113 := n1_; clear n0_ n1_; clear ho hb hg hat))
    go_ret
    exact ⟨_, by first | rfl | (simp [errW_none, errW_some] <;> rfl) | (simp [*, errW_none, errW_some] <;> rfl), by (with_reducible repeat (first | apply Kd.R_alloc | apply Kd.R_drewN | apply Kd.R_drew)); exact HO113.out, by repeat (first | (with_reducible first | exact HB.out | apply below_alloc | apply pw_below_drewN | apply below_drew1) | exact HB.out)⟩
  · rw [if_neg c2] at H
    exact absurd H (by simp)

/-! ### impl_SetDecode: function 22 -/
-- WORLD YtjhdnapgdajllaaDoor.SetDecY.DecLaid
section
open _root_.Go.Proofs.YtjhdnapgdajllaaDoor.SetW _root_.Go.Proofs.YtjhdnapgdajllaaDoor.SetDecY
def impl_SetDecode.f (l0 : List Int) : Option (List Int × Int × Int) :=
  if l0.all (fun z => decide (0 ≤ z) && decide (z < 256)) = true ∧ l0.length ≤ 1000 then
    match decA (l0.map Int.toNat) with
    | some q => some (q.1.map (fun n : Nat => (n : Int)), ((q.2 : Nat) : Int), 0)
    | none => some ([], 0, 1)
  else none
theorem impl_SetDecode.calls (A0 : Option Addr) (c0 : Nat) (l0 : List Int) (r1 : List Int) (r2 : Int) (r3 : Int) (w : World) (hr0 : Kd.C (Kd.int .u8) w A0 l0.length l0) (hc0 : l0.length ≤ c0) (h : impl_SetDecode.f l0 = some (r1, r2, r3)) (hE : DecLaid w) :
    Calls Tryd.prog 22 #[.slice A0 l0.length c0] w fun e w' => ∃ v0_ : Value, e = .returned (.tuple #[v0_, .int .i64 r2, .int .i64 r3]) ∧ Kd.R (Kd.int .u64) 32 w' w.heap.size (fun _ => True) v0_ r1 ∧ Below w.heap.size w w' := by
  unfold impl_SetDecode.f at h
  split at h
  · rename_i hc
    have hb : ∀ z ∈ l0, 0 ≤ z ∧ z < 256 := fun z hz => by
      have := List.all_eq_true.1 hc.1 z hz
      simp only [Bool.and_eq_true, decide_eq_true_eq] at this
      exact this
    have hl : (l0.map Int.toNat).map (fun n : Nat => (n : Int)) = l0 := by
      rw [List.map_map]
      refine (List.map_congr_left (fun z hz => ?_)).trans (List.map_id _)
      have := (hb z hz).1
      show ((z.toNat : Nat) : Int) = z
      omega
    have := SetDecode_all A0 c0 (l0.map Int.toNat) w (by rw [hl]; exact hr0) (by rw [hl]; exact hc0) (fun y hy => by
      obtain ⟨z, hz, rfl⟩ := List.mem_map.1 hy
      have := hb z hz
      omega) (by rw [List.length_map]; exact hc.2) hE
    rw [hl] at this
    refine this.mono ?_
    rintro e w' (⟨rfl, hd, b⟩ | ⟨U, v3, rfl, L, u, hd, rfl, hR, b⟩)
    · rw [hd] at h
      simp only [Option.some.injEq, Prod.mk.injEq] at h
      obtain ⟨h1, h2, h3⟩ := h
      subst h1 h2 h3
      exact ⟨_, rfl, Kd.R_nil _ _ _ _ _, b⟩
    · rw [hd] at h
      simp only [Option.some.injEq, Prod.mk.injEq] at h
      obtain ⟨h1, h2, h3⟩ := h
      subst h1 h2 h3
      exact ⟨v3, rfl, hR, b⟩
  · cases h
end


/-! ### laws_FnSetDecode: function 7 -/
def laws_FnSetDecode.f (l0 : List Int) : Option (Bool) := if (l0.length : Int) > 2147483647 then (some true) else (if (l0.length : Int) > 600 then ((laws_awakeSet.f).bind fun t114 => (some t114)) else ((some (([] : List Int) : List Int)).bind fun y115 => (if y115.length + l0.length < 140737488355328 then ((impl_SetDecode.f (y115 ++ l0)).bind fun bt121 => (if bt121.2.2 = 0 then (if (l0.length : Int) > 0 then (if bt121.2.1 ≥ 0 then (if bt121.2.1 ≤ (l0.length : Int) then (if bt121.2.1 > 0 then ((laws_awakeSet.f).bind fun t126 => (some t126)) else (if (bt121.1.length : Int) = 0 then ((laws_awakeSet.f).bind fun t127 => (some t127)) else (some false))) else (some false)) else (some false)) else (some false)) else ((laws_awakeSet.f).bind fun t128 => (some t128)))) else (none))))
set_option maxHeartbeats 8000000 in
set_option maxRecDepth 100000 in
theorem laws_FnSetDecode.calls (A0 : Option Addr) (c0 : Nat) (l0 : List Int) (r : Bool) (w : World) (hr0 : Kd.C (Kd.int .u8) w A0 l0.length l0) (hc0 : l0.length ≤ c0) (h : laws_FnSetDecode.f l0 = some r) (hE_ : Go.Proofs.YtjhdnapgdajllaaDoor.SetDecY.DecLaid w) :
    Calls Tryd.prog 7 #[.slice A0 l0.length c0] w fun e w' => e = .returned (.bool r) ∧ Below w.heap.size w w' := by
  have HE_ := Aside0.mk hE_
  clear hE_
  have HR0 := Aside0.mk hr0
  have HC0 := Aside0.mk hc0
  clear hr0 hc0
  have HB := Aside0.mk (Below.refl w.heap.size w)
  have H : (if (l0.length : Int) > 2147483647 then (some true) else (if (l0.length : Int) > 600 then ((laws_awakeSet.f).bind fun t114 => (some t114)) else ((some (([] : List Int) : List Int)).bind fun y115 => (if y115.length + l0.length < 140737488355328 then ((impl_SetDecode.f (y115 ++ l0)).bind fun bt121 => (if bt121.2.2 = 0 then (if (l0.length : Int) > 0 then (if bt121.2.1 ≥ 0 then (if bt121.2.1 ≤ (l0.length : Int) then (if bt121.2.1 > 0 then ((laws_awakeSet.f).bind fun t126 => (some t126)) else (if (bt121.1.length : Int) = 0 then ((laws_awakeSet.f).bind fun t127 => (some t127)) else (some false))) else (some false)) else (some false)) else (some false)) else ((laws_awakeSet.f).bind fun t128 => (some t128)))) else (none))))) = some r := h
  clear h
  by_cases c2 : (l0.length : Int) > 2147483647
  · rw [if_pos c2] at H
    have c2b0 : decide (2147483647 < (l0.length : Int)) = true := decide_eq_true c2
    have c2b1 : decide (2147483647 < l0.length) = true := decide_eq_true (by omega)
    clear c2
    obtain rfl := Option.some.inj H
    go_enter Tryd.func7, Tryd.ntmps7
    go_wp2
    go_ret
    exact ⟨by first | rfl | (simp [errW_none, errW_some] <;> rfl) | (simp [*, errW_none, errW_some] <;> rfl) | (simp [errW_none, errW_some]; generalize ByteArray.toList _ = l_; cases l_ <;> rfl), by repeat (first | (with_reducible first | exact HB.out | apply below_alloc | apply pw_below_drewN | apply below_drew1) | exact HB.out)⟩
  · rw [if_neg c2] at H
    have c2b0 : decide (2147483647 < (l0.length : Int)) = false := decide_eq_false c2
    have c2b1 : decide (2147483647 < l0.length) = false := decide_eq_false (by omega)
    clear c2
    by_cases c3 : (l0.length : Int) > 600
    · rw [if_pos c3] at H
      have c3b0 : decide (600 < (l0.length : Int)) = true := decide_eq_true c3
      have c3b1 : decide (600 < l0.length) = true := decide_eq_true (by omega)
      clear c3
      replace H := Option.bind_eq_some_iff.mp H
      obtain ⟨t114, A40, H⟩ := H
      replace H : (some t114) = some r := H
      have A4 := Aside0.mk A40
      clear A40
      obtain rfl := Option.some.inj H
      go_enter Tryd.func7, Tryd.ntmps7
      go_wp2_with (first | ((with_reducible refine gate_callee (f := 12) rfl ?_); refine goesL_ (some 12) rfl rfl Tryd.func12 (by kernel_rfl) rfl #[] rfl (by (try simp only [List.map_toArray, List.map_cons, List.map_nil]); first | done | rfl | (simp only [List.length_drop, List.length_take]; rfl)) ?_; (with_reducible refine (laws_awakeSet.calls  t114 _ A4.out (HE_.out.below (by repeat (first | (with_reducible first | exact HB.out | apply below_alloc | apply pw_below_drewN | apply below_drew1) | exact HB.out)))).mono ?_); rintro e w5 ⟨rfl, hb⟩; refine ⟨_, rfl, ?_⟩; have n0_ := Aside0.mk (below_step (by repeat (first | (with_reducible first | exact HB.out | apply below_alloc | apply pw_below_drewN | apply below_drew1) | exact HB.out)) hb); clear HB; have HB := n0_; clear n0_; (try clear hb); (try clear hb2); (try clear hk); (try clear hi)))
      go_ret
      exact ⟨by first | rfl | (simp [errW_none, errW_some] <;> rfl) | (simp [*, errW_none, errW_some] <;> rfl) | (simp [errW_none, errW_some]; generalize ByteArray.toList _ = l_; cases l_ <;> rfl), by repeat (first | (with_reducible first | exact HB.out | apply below_alloc | apply pw_below_drewN | apply below_drew1) | exact HB.out)⟩
    · rw [if_neg c3] at H
      have c3b0 : decide (600 < (l0.length : Int)) = false := decide_eq_false c3
      have c3b1 : decide (600 < l0.length) = false := decide_eq_false (by omega)
      clear c3
      obtain ⟨y115, hy115⟩ : ∃ y_ : List Int, y_ = (([] : List Int)) := ⟨_, rfl⟩
      replace H : (if y115.length + l0.length < 140737488355328 then ((impl_SetDecode.f (y115 ++ l0)).bind fun bt121 => (if bt121.2.2 = 0 then (if (l0.length : Int) > 0 then (if bt121.2.1 ≥ 0 then (if bt121.2.1 ≤ (l0.length : Int) then (if bt121.2.1 > 0 then ((laws_awakeSet.f).bind fun t126 => (some t126)) else (if (bt121.1.length : Int) = 0 then ((laws_awakeSet.f).bind fun t127 => (some t127)) else (some false))) else (some false)) else (some false)) else (some false)) else ((laws_awakeSet.f).bind fun t128 => (some t128)))) else (none)) = some r := by first | (rw [hy115]; with_reducible exact H) | (have H2_ := (Option.bind_some _ _).symm.trans H; rw [hy115]; with_reducible exact H2_) | (have H2_ := (Option.bind_some _ _).symm.trans H; with_reducible exact H2_) | with_reducible exact H | (rw [hy115]; exact H) | exact H
      have Ny115 := Aside0.mk hy115
      clear hy115
      by_cases c6 : y115.length + l0.length < 140737488355328
      · rw [if_pos c6] at H
        have LMc6 := Aside0.mk c6
        clear c6
        obtain ⟨y118, hy118⟩ : ∃ y_ : List Int, y_ = (y115 ++ l0) := ⟨_, rfl⟩
        replace H : ((impl_SetDecode.f y118).bind fun bt121 => (if bt121.2.2 = 0 then (if (l0.length : Int) > 0 then (if bt121.2.1 ≥ 0 then (if bt121.2.1 ≤ (l0.length : Int) then (if bt121.2.1 > 0 then ((laws_awakeSet.f).bind fun t126 => (some t126)) else (if (bt121.1.length : Int) = 0 then ((laws_awakeSet.f).bind fun t127 => (some t127)) else (some false))) else (some false)) else (some false)) else (some false)) else ((laws_awakeSet.f).bind fun t128 => (some t128)))) = some r := by first | (rw [hy118]; with_reducible exact H) | (have H2_ := (Option.bind_some _ _).symm.trans H; rw [hy118]; with_reducible exact H2_) | (have H2_ := (Option.bind_some _ _).symm.trans H; with_reducible exact H2_) | with_reducible exact H | (rw [hy118]; exact H) | exact H
        have Ny118 := Aside0.mk hy118
        clear hy118
        replace H := Option.bind_eq_some_iff.mp H
        obtain ⟨⟨t121, t122, t123⟩, A70, H⟩ := H
        replace H : (if t123 = 0 then (if (l0.length : Int) > 0 then (if t122 ≥ 0 then (if t122 ≤ (l0.length : Int) then (if t122 > 0 then ((laws_awakeSet.f).bind fun t126 => (some t126)) else (if (t121.length : Int) = 0 then ((laws_awakeSet.f).bind fun t127 => (some t127)) else (some false))) else (some false)) else (some false)) else (some false)) else ((laws_awakeSet.f).bind fun t128 => (some t128))) = some r := H
        have A7 := Aside0.mk A70
        clear A70
        by_cases c8 : t123 = 0
        · rw [if_pos c8] at H
          have c8b0 : (t123 == 0) = true := beq_iff_eq.mpr c8
          have c8b1 : (t123 != 0) = false := bne_eq_false_iff_eq.mpr c8
          clear c8
          by_cases c9 : (l0.length : Int) > 0
          · rw [if_pos c9] at H
            have c9b0 : decide (0 < (l0.length : Int)) = true := decide_eq_true c9
            have c9b1 : decide (0 < l0.length) = true := decide_eq_true (by omega)
            clear c9
            by_cases c10 : t122 ≥ 0
            · rw [if_pos c10] at H
              have c10b0 : decide (0 ≤ t122) = true := decide_eq_true c10
              clear c10
              by_cases c11 : t122 ≤ (l0.length : Int)
              · rw [if_pos c11] at H
                have c11b0 : decide (t122 ≤ (l0.length : Int)) = true := decide_eq_true c11
                clear c11
                by_cases c12 : t122 > 0
                · rw [if_pos c12] at H
                  have c12b0 : decide (0 < t122) = true := decide_eq_true c12
                  clear c12
                  replace H := Option.bind_eq_some_iff.mp H
                  obtain ⟨t126, A130, H⟩ := H
                  replace H : (some t126) = some r := H
                  have A13 := Aside0.mk A130
                  clear A130
                  obtain rfl := Option.some.inj H
                  go_enter Tryd.func7, Tryd.ntmps7
                  go_wp2_with (first | ((with_reducible refine gate_dst (N := 14) rfl ?_); (try (refine gate_guard (by rfl) ?_; dsimp only)); refine Kd.R_lit (Kd.int .u8) _ 5 ?hg (N := 14) ?hd (xs := ([] : List Int)) (inner := []) (ok := fun _ => True) (okp := fun _ => True) ?hr ?hp (fun _ hk => hk) trivial (Below.refl _ _) (Nat.le_refl _) (by simp) ?_; (case hd => rfl); (case hg => rfl); (case hr => first | (go_simp; done) | (go_simp; rfl)); (case hp => exact (Reps.none _ _)); intro v116 w14 ho15 hb hg_ hnew_; clear hg_ hnew_; (first | rw [← Ny115.out] at ho15 | (simp only [Int.reduceToNat] at ho15; rw [← Ny115.out] at ho15)); have n0_ := Aside0.mk (Kd.R_lower ho15 (below_size (by repeat (first | (with_reducible first | exact HB.out | apply below_alloc | apply pw_below_drewN | apply below_drew1) | exact HB.out)))); have n1_ := Aside0.mk (below_step (by repeat (first | (with_reducible first | exact HB.out | apply below_alloc | apply pw_below_drewN | apply below_drew1) | exact HB.out)) hb); clear HB; have HO117 := n0_; have HB := n1_; clear n0_ n1_; clear hb ho15) | ((with_reducible refine gate_builtin (b := .append) (xs := #[.tmp 14, .tmp 15]) rfl ?_); (try (refine gate_guard (by rfl) ?_; dsimp only)); at_builtin; refine Kd.R_append_rows (Kd.int .u8) (w0 := w) w.heap.size rfl (.tmp 14) (.tmp 15) 47 5 (.int .u8 0) 1 rfl Tryd.underlying47 info5 rfl (by decide) (by omega) v116 y115 l0 _ _ _ (fun _ => True) (fun _ => False) rfl rfl ?aO ?aR (fun _ _ h => h) (fun _ h => h.elim) ?aF ?aB ?aS ?aL ?_; (case aR => repeat (first | exact (Kd.C_below HR0.out HB.out) | (with_reducible refine Kd.C_alloc ?_ _) | (with_reducible refine Kd.C_drewN ?_ _) | (with_reducible refine Kd.C_drew ?_))); (case aB => exact (by repeat (first | (with_reducible first | exact HB.out | apply below_alloc | apply pw_below_drewN | apply below_drew1) | exact HB.out))); (case aF => exact (fun _ _ => trivial)); (case aO => exact (by (with_reducible repeat (first | apply Kd.R_alloc | apply Kd.R_drewN | apply Kd.R_drew)); exact HO117.out)); (case aS => exact (below_size (by repeat (first | (with_reducible first | exact HB.out | apply below_alloc | apply pw_below_drewN | apply below_drew1) | exact HB.out)))); (case aL => have := LMc6.out; omega); intro v119 w16 ho hb hg hat; rw [← Ny118.out] at ho; have n0_ := Aside0.mk (hb); have n1_ := Aside0.mk (ho); clear HB; clear HO117; have HB := n0_; have HO120 := n1_; clear n0_ n1_; clear ho hb hg hat; obtain ⟨Ao17, co17, eo17⟩ := Kd.R_slice HO120.out; subst eo17) | ((with_reducible refine gate_callee (f := 22) rfl ?_); refine goesL_ (some 17) rfl rfl Tryd.func22 (by kernel_rfl) rfl #[.slice Ao17 y118.length co17] rfl (by (try simp only [List.map_toArray, List.map_cons, List.map_nil]); first | done | rfl | (simp only [List.length_drop, List.length_take]; rfl)) ?_; (with_reducible refine (impl_SetDecode.calls _ _ y118 t121 t122 t123 _ ?side1 ?side2 A7.out (HE_.out.below (by repeat (first | (with_reducible first | exact HB.out | apply below_alloc | apply pw_below_drewN | apply below_drew1) | exact HB.out)))).mono ?_); (case side1 => repeat (first | exact (Kd.R_reads' HO120.out).2.2 | (with_reducible refine Kd.C_alloc ?_ _) | (with_reducible refine Kd.C_drewN ?_ _) | (with_reducible refine Kd.C_drew ?_))); (case side2 => exact (Kd.R_reads' HO120.out).2.1); rintro e w18 ⟨v124, rfl, ho0, hb⟩; refine ⟨_, rfl, ?_⟩; have n0_ := Aside0.mk (Kd.R_below (by (with_reducible repeat (first | apply Kd.R_alloc | apply Kd.R_drewN | apply Kd.R_drew)); exact HO120.out) hb); have n1_ := Aside0.mk (Kd.R_lower ho0 (below_size (by repeat (first | (with_reducible first | exact HB.out | apply below_alloc | apply pw_below_drewN | apply below_drew1) | exact HB.out)))); have n2_ := Aside0.mk (below_step (by repeat (first | (with_reducible first | exact HB.out | apply below_alloc | apply pw_below_drewN | apply below_drew1) | exact HB.out)) hb); clear HO120; clear HB; have HO120 := n0_; have HO125 := n1_; have HB := n2_; clear n0_ n1_ n2_; (try clear hb); (try clear hb2); (try clear hk); (try clear hi); (try clear ho0)) | (go_at_call 12; (with_reducible refine (laws_awakeSet.calls  t126 _ A13.out (HE_.out.below (by repeat (first | (with_reducible first | exact HB.out | apply below_alloc | apply pw_below_drewN | apply below_drew1) | exact HB.out)))).mono ?_); rintro e w19 ⟨rfl, hb⟩; have n0_ := Aside0.mk (Kd.R_below (by (with_reducible repeat (first | apply Kd.R_alloc | apply Kd.R_drewN | apply Kd.R_drew)); exact HO120.out) hb); have n1_ := Aside0.mk (Kd.R_below (by (with_reducible repeat (first | apply Kd.R_alloc | apply Kd.R_drewN | apply Kd.R_drew)); exact HO125.out) hb); have n2_ := Aside0.mk (below_step (by repeat (first | (with_reducible first | exact HB.out | apply below_alloc | apply pw_below_drewN | apply below_drew1) | exact HB.out)) hb); clear HO120; clear HO125; clear HB; have HO120 := n0_; have HO125 := n1_; have HB := n2_; clear n0_ n1_ n2_; (try clear hb); (try clear hb2); (try clear hk); (try clear hi)))
                  go_ret
                  exact ⟨by first | rfl | (simp [errW_none, errW_some] <;> rfl) | (simp [*, errW_none, errW_some] <;> rfl) | (simp [errW_none, errW_some]; generalize ByteArray.toList _ = l_; cases l_ <;> rfl), by repeat (first | (with_reducible first | exact HB.out | apply below_alloc | apply pw_below_drewN | apply below_drew1) | exact HB.out)⟩
                · rw [if_neg c12] at H
                  have c12b0 : decide (0 < t122) = false := decide_eq_false c12
                  clear c12
                  by_cases c20 : (t121.length : Int) = 0
                  · rw [if_pos c20] at H
                    have c20b0 : ((t121.length : Int) == 0) = true := beq_iff_eq.mpr c20
                    have c20b1 : ((t121.length : Int) != 0) = false := bne_eq_false_iff_eq.mpr c20
                    clear c20
                    replace H := Option.bind_eq_some_iff.mp H
                    obtain ⟨t127, A210, H⟩ := H
                    replace H : (some t127) = some r := H
                    have A21 := Aside0.mk A210
                    clear A210
                    obtain rfl := Option.some.inj H
                    go_enter Tryd.func7, Tryd.ntmps7
                    go_wp2_with (first | ((with_reducible refine gate_dst (N := 14) rfl ?_); (try (refine gate_guard (by rfl) ?_; dsimp only)); refine Kd.R_lit (Kd.int .u8) _ 5 ?hg (N := 14) ?hd (xs := ([] : List Int)) (inner := []) (ok := fun _ => True) (okp := fun _ => True) ?hr ?hp (fun _ hk => hk) trivial (Below.refl _ _) (Nat.le_refl _) (by simp) ?_; (case hd => rfl); (case hg => rfl); (case hr => first | (go_simp; done) | (go_simp; rfl)); (case hp => exact (Reps.none _ _)); intro v116 w22 ho23 hb hg_ hnew_; clear hg_ hnew_; (first | rw [← Ny115.out] at ho23 | (simp only [Int.reduceToNat] at ho23; rw [← Ny115.out] at ho23)); have n0_ := Aside0.mk (Kd.R_lower ho23 (below_size (by repeat (first | (with_reducible first | exact HB.out | apply below_alloc | apply pw_below_drewN | apply below_drew1) | exact HB.out)))); have n1_ := Aside0.mk (below_step (by repeat (first | (with_reducible first | exact HB.out | apply below_alloc | apply pw_below_drewN | apply below_drew1) | exact HB.out)) hb); clear HB; have HO117 := n0_; have HB := n1_; clear n0_ n1_; clear hb ho23) | ((with_reducible refine gate_builtin (b := .append) (xs := #[.tmp 14, .tmp 15]) rfl ?_); (try (refine gate_guard (by rfl) ?_; dsimp only)); at_builtin; refine Kd.R_append_rows (Kd.int .u8) (w0 := w) w.heap.size rfl (.tmp 14) (.tmp 15) 47 5 (.int .u8 0) 1 rfl Tryd.underlying47 info5 rfl (by decide) (by omega) v116 y115 l0 _ _ _ (fun _ => True) (fun _ => False) rfl rfl ?aO ?aR (fun _ _ h => h) (fun _ h => h.elim) ?aF ?aB ?aS ?aL ?_; (case aR => repeat (first | exact (Kd.C_below HR0.out HB.out) | (with_reducible refine Kd.C_alloc ?_ _) | (with_reducible refine Kd.C_drewN ?_ _) | (with_reducible refine Kd.C_drew ?_))); (case aB => exact (by repeat (first | (with_reducible first | exact HB.out | apply below_alloc | apply pw_below_drewN | apply below_drew1) | exact HB.out))); (case aF => exact (fun _ _ => trivial)); (case aO => exact (by (with_reducible repeat (first | apply Kd.R_alloc | apply Kd.R_drewN | apply Kd.R_drew)); exact HO117.out)); (case aS => exact (below_size (by repeat (first | (with_reducible first | exact HB.out | apply below_alloc | apply pw_below_drewN | apply below_drew1) | exact HB.out)))); (case aL => have := LMc6.out; omega); intro v119 w24 ho hb hg hat; rw [← Ny118.out] at ho; have n0_ := Aside0.mk (hb); have n1_ := Aside0.mk (ho); clear HB; clear HO117; have HB := n0_; have HO120 := n1_; clear n0_ n1_; clear ho hb hg hat; obtain ⟨Ao25, co25, eo25⟩ := Kd.R_slice HO120.out; subst eo25) | ((with_reducible refine gate_callee (f := 22) rfl ?_); refine goesL_ (some 17) rfl rfl Tryd.func22 (by kernel_rfl) rfl #[.slice Ao25 y118.length co25] rfl (by (try simp only [List.map_toArray, List.map_cons, List.map_nil]); first | done | rfl | (simp only [List.length_drop, List.length_take]; rfl)) ?_; (with_reducible refine (impl_SetDecode.calls _ _ y118 t121 t122 t123 _ ?side1 ?side2 A7.out (HE_.out.below (by repeat (first | (with_reducible first | exact HB.out | apply below_alloc | apply pw_below_drewN | apply below_drew1) | exact HB.out)))).mono ?_); (case side1 => repeat (first | exact (Kd.R_reads' HO120.out).2.2 | (with_reducible refine Kd.C_alloc ?_ _) | (with_reducible refine Kd.C_drewN ?_ _) | (with_reducible refine Kd.C_drew ?_))); (case side2 => exact (Kd.R_reads' HO120.out).2.1); rintro e w26 ⟨v124, rfl, ho0, hb⟩; refine ⟨_, rfl, ?_⟩; have n0_ := Aside0.mk (Kd.R_below (by (with_reducible repeat (first | apply Kd.R_alloc | apply Kd.R_drewN | apply Kd.R_drew)); exact HO120.out) hb); have n1_ := Aside0.mk (Kd.R_lower ho0 (below_size (by repeat (first | (with_reducible first | exact HB.out | apply below_alloc | apply pw_below_drewN | apply below_drew1) | exact HB.out)))); have n2_ := Aside0.mk (below_step (by repeat (first | (with_reducible first | exact HB.out | apply below_alloc | apply pw_below_drewN | apply below_drew1) | exact HB.out)) hb); clear HO120; clear HB; have HO120 := n0_; have HO125 := n1_; have HB := n2_; clear n0_ n1_ n2_; (try clear hb); (try clear hb2); (try clear hk); (try clear hi); (try clear ho0); obtain ⟨Ao27, co27, eo27⟩ := Kd.R_slice HO125.out; subst eo27) | (go_at_call 12; (with_reducible refine (laws_awakeSet.calls  t127 _ A21.out (HE_.out.below (by repeat (first | (with_reducible first | exact HB.out | apply below_alloc | apply pw_below_drewN | apply below_drew1) | exact HB.out)))).mono ?_); rintro e w28 ⟨rfl, hb⟩; have n0_ := Aside0.mk (Kd.R_below (by (with_reducible repeat (first | apply Kd.R_alloc | apply Kd.R_drewN | apply Kd.R_drew)); exact HO120.out) hb); have n1_ := Aside0.mk (Kd.R_below (by (with_reducible repeat (first | apply Kd.R_alloc | apply Kd.R_drewN | apply Kd.R_drew)); exact HO125.out) hb); have n2_ := Aside0.mk (below_step (by repeat (first | (with_reducible first | exact HB.out | apply below_alloc | apply pw_below_drewN | apply below_drew1) | exact HB.out)) hb); clear HO120; clear HO125; clear HB; have HO120 := n0_; have HO125 := n1_; have HB := n2_; clear n0_ n1_ n2_; (try clear hb); (try clear hb2); (try clear hk); (try clear hi)))
                    go_ret
                    exact ⟨by first | rfl | (simp [errW_none, errW_some] <;> rfl) | (simp [*, errW_none, errW_some] <;> rfl) | (simp [errW_none, errW_some]; generalize ByteArray.toList _ = l_; cases l_ <;> rfl), by repeat (first | (with_reducible first | exact HB.out | apply below_alloc | apply pw_below_drewN | apply below_drew1) | exact HB.out)⟩
                  · rw [if_neg c20] at H
                    have c20b0 : ((t121.length : Int) == 0) = false := beq_eq_false_iff_ne.mpr c20
                    have c20b1 : ((t121.length : Int) != 0) = true := bne_iff_ne.mpr c20
                    have c20b2 : ¬ (t121 = []) := fun h_ => c20 (by rw [h_]; rfl)
                    obtain rfl := Option.some.inj H
                    go_enter Tryd.func7, Tryd.ntmps7
                    go_wp2_with (first | ((with_reducible refine gate_dst (N := 14) rfl ?_); (try (refine gate_guard (by rfl) ?_; dsimp only)); refine Kd.R_lit (Kd.int .u8) _ 5 ?hg (N := 14) ?hd (xs := ([] : List Int)) (inner := []) (ok := fun _ => True) (okp := fun _ => True) ?hr ?hp (fun _ hk => hk) trivial (Below.refl _ _) (Nat.le_refl _) (by simp) ?_; (case hd => rfl); (case hg => rfl); (case hr => first | (go_simp; done) | (go_simp; rfl)); (case hp => exact (Reps.none _ _)); intro v116 w29 ho30 hb hg_ hnew_; clear hg_ hnew_; (first | rw [← Ny115.out] at ho30 | (simp only [Int.reduceToNat] at ho30; rw [← Ny115.out] at ho30)); have n0_ := Aside0.mk (Kd.R_lower ho30 (below_size (by repeat (first | (with_reducible first | exact HB.out | apply below_alloc | apply pw_below_drewN | apply below_drew1) | exact HB.out)))); have n1_ := Aside0.mk (below_step (by repeat (first | (with_reducible first | exact HB.out | apply below_alloc | apply pw_below_drewN | apply below_drew1) | exact HB.out)) hb); clear HB; have HO117 := n0_; have HB := n1_; clear n0_ n1_; clear hb ho30) | ((with_reducible refine gate_builtin (b := .append) (xs := #[.tmp 14, .tmp 15]) rfl ?_); (try (refine gate_guard (by rfl) ?_; dsimp only)); at_builtin; refine Kd.R_append_rows (Kd.int .u8) (w0 := w) w.heap.size rfl (.tmp 14) (.tmp 15) 47 5 (.int .u8 0) 1 rfl Tryd.underlying47 info5 rfl (by decide) (by omega) v116 y115 l0 _ _ _ (fun _ => True) (fun _ => False) rfl rfl ?aO ?aR (fun _ _ h => h) (fun _ h => h.elim) ?aF ?aB ?aS ?aL ?_; (case aR => repeat (first | exact (Kd.C_below HR0.out HB.out) | (with_reducible refine Kd.C_alloc ?_ _) | (with_reducible refine Kd.C_drewN ?_ _) | (with_reducible refine Kd.C_drew ?_))); (case aB => exact (by repeat (first | (with_reducible first | exact HB.out | apply below_alloc | apply pw_below_drewN | apply below_drew1) | exact HB.out))); (case aF => exact (fun _ _ => trivial)); (case aO => exact (by (with_reducible repeat (first | apply Kd.R_alloc | apply Kd.R_drewN | apply Kd.R_drew)); exact HO117.out)); (case aS => exact (below_size (by repeat (first | (with_reducible first | exact HB.out | apply below_alloc | apply pw_below_drewN | apply below_drew1) | exact HB.out)))); (case aL => have := LMc6.out; omega); intro v119 w31 ho hb hg hat; rw [← Ny118.out] at ho; have n0_ := Aside0.mk (hb); have n1_ := Aside0.mk (ho); clear HB; clear HO117; have HB := n0_; have HO120 := n1_; clear n0_ n1_; clear ho hb hg hat; obtain ⟨Ao32, co32, eo32⟩ := Kd.R_slice HO120.out; subst eo32) | ((with_reducible refine gate_callee (f := 22) rfl ?_); refine goesL_ (some 17) rfl rfl Tryd.func22 (by kernel_rfl) rfl #[.slice Ao32 y118.length co32] rfl (by (try simp only [List.map_toArray, List.map_cons, List.map_nil]); first | done | rfl | (simp only [List.length_drop, List.length_take]; rfl)) ?_; (with_reducible refine (impl_SetDecode.calls _ _ y118 t121 t122 t123 _ ?side1 ?side2 A7.out (HE_.out.below (by repeat (first | (with_reducible first | exact HB.out | apply below_alloc | apply pw_below_drewN | apply below_drew1) | exact HB.out)))).mono ?_); (case side1 => repeat (first | exact (Kd.R_reads' HO120.out).2.2 | (with_reducible refine Kd.C_alloc ?_ _) | (with_reducible refine Kd.C_drewN ?_ _) | (with_reducible refine Kd.C_drew ?_))); (case side2 => exact (Kd.R_reads' HO120.out).2.1); rintro e w33 ⟨v124, rfl, ho0, hb⟩; refine ⟨_, rfl, ?_⟩; have n0_ := Aside0.mk (Kd.R_below (by (with_reducible repeat (first | apply Kd.R_alloc | apply Kd.R_drewN | apply Kd.R_drew)); exact HO120.out) hb); have n1_ := Aside0.mk (Kd.R_lower ho0 (below_size (by repeat (first | (with_reducible first | exact HB.out | apply below_alloc | apply pw_below_drewN | apply below_drew1) | exact HB.out)))); have n2_ := Aside0.mk (below_step (by repeat (first | (with_reducible first | exact HB.out | apply below_alloc | apply pw_below_drewN | apply below_drew1) | exact HB.out)) hb); clear HO120; clear HB; have HO120 := n0_; have HO125 := n1_; have HB := n2_; clear n0_ n1_ n2_; (try clear hb); (try clear hb2); (try clear hk); (try clear hi); (try clear ho0); obtain ⟨Ao34, co34, eo34⟩ := Kd.R_slice HO125.out; subst eo34))
                    go_ret
                    exact ⟨by first | rfl | (simp [errW_none, errW_some] <;> rfl) | (simp [*, errW_none, errW_some] <;> rfl) | (simp [errW_none, errW_some]; generalize ByteArray.toList _ = l_; cases l_ <;> rfl), by repeat (first | (with_reducible first | exact HB.out | apply below_alloc | apply pw_below_drewN | apply below_drew1) | exact HB.out)⟩
              · rw [if_neg c11] at H
                have c11b0 : decide (t122 ≤ (l0.length : Int)) = false := decide_eq_false c11
                clear c11
                obtain rfl := Option.some.inj H
                go_enter Tryd.func7, Tryd.ntmps7
                go_wp2_with (first | ((with_reducible refine gate_dst (N := 14) rfl ?_); (try (refine gate_guard (by rfl) ?_; dsimp only)); refine Kd.R_lit (Kd.int .u8) _ 5 ?hg (N := 14) ?hd (xs := ([] : List Int)) (inner := []) (ok := fun _ => True) (okp := fun _ => True) ?hr ?hp (fun _ hk => hk) trivial (Below.refl _ _) (Nat.le_refl _) (by simp) ?_; (case hd => rfl); (case hg => rfl); (case hr => first | (go_simp; done) | (go_simp; rfl)); (case hp => exact (Reps.none _ _)); intro v116 w35 ho36 hb hg_ hnew_; clear hg_ hnew_; (first | rw [← Ny115.out] at ho36 | (simp only [Int.reduceToNat] at ho36; rw [← Ny115.out] at ho36)); have n0_ := Aside0.mk (Kd.R_lower ho36 (below_size (by repeat (first | (with_reducible first | exact HB.out | apply below_alloc | apply pw_below_drewN | apply below_drew1) | exact HB.out)))); have n1_ := Aside0.mk (below_step (by repeat (first | (with_reducible first | exact HB.out | apply below_alloc | apply pw_below_drewN | apply below_drew1) | exact HB.out)) hb); clear HB; have HO117 := n0_; have HB := n1_; clear n0_ n1_; clear hb ho36) | ((with_reducible refine gate_builtin (b := .append) (xs := #[.tmp 14, .tmp 15]) rfl ?_); (try (refine gate_guard (by rfl) ?_; dsimp only)); at_builtin; refine Kd.R_append_rows (Kd.int .u8) (w0 := w) w.heap.size rfl (.tmp 14) (.tmp 15) 47 5 (.int .u8 0) 1 rfl Tryd.underlying47 info5 rfl (by decide) (by omega) v116 y115 l0 _ _ _ (fun _ => True) (fun _ => False) rfl rfl ?aO ?aR (fun _ _ h => h) (fun _ h => h.elim) ?aF ?aB ?aS ?aL ?_; (case aR => repeat (first | exact (Kd.C_below HR0.out HB.out) | (with_reducible refine Kd.C_alloc ?_ _) | (with_reducible refine Kd.C_drewN ?_ _) | (with_reducible refine Kd.C_drew ?_))); (case aB => exact (by repeat (first | (with_reducible first | exact HB.out | apply below_alloc | apply pw_below_drewN | apply below_drew1) | exact HB.out))); (case aF => exact (fun _ _ => trivial)); (case aO => exact (by (with_reducible repeat (first | apply Kd.R_alloc | apply Kd.R_drewN | apply Kd.R_drew)); exact HO117.out)); (case aS => exact (below_size (by repeat (first | (with_reducible first | exact HB.out | apply below_alloc | apply pw_below_drewN | apply below_drew1) | exact HB.out)))); (case aL => have := LMc6.out; omega); intro v119 w37 ho hb hg hat; rw [← Ny118.out] at ho; have n0_ := Aside0.mk (hb); have n1_ := Aside0.mk (ho); clear HB; clear HO117; have HB := n0_; have HO120 := n1_; clear n0_ n1_; clear ho hb hg hat; obtain ⟨Ao38, co38, eo38⟩ := Kd.R_slice HO120.out; subst eo38) | ((with_reducible refine gate_callee (f := 22) rfl ?_); refine goesL_ (some 17) rfl rfl Tryd.func22 (by kernel_rfl) rfl #[.slice Ao38 y118.length co38] rfl (by (try simp only [List.map_toArray, List.map_cons, List.map_nil]); first | done | rfl | (simp only [List.length_drop, List.length_take]; rfl)) ?_; (with_reducible refine (impl_SetDecode.calls _ _ y118 t121 t122 t123 _ ?side1 ?side2 A7.out (HE_.out.below (by repeat (first | (with_reducible first | exact HB.out | apply below_alloc | apply pw_below_drewN | apply below_drew1) | exact HB.out)))).mono ?_); (case side1 => repeat (first | exact (Kd.R_reads' HO120.out).2.2 | (with_reducible refine Kd.C_alloc ?_ _) | (with_reducible refine Kd.C_drewN ?_ _) | (with_reducible refine Kd.C_drew ?_))); (case side2 => exact (Kd.R_reads' HO120.out).2.1); rintro e w39 ⟨v124, rfl, ho0, hb⟩; refine ⟨_, rfl, ?_⟩; have n0_ := Aside0.mk (Kd.R_below (by (with_reducible repeat (first | apply Kd.R_alloc | apply Kd.R_drewN | apply Kd.R_drew)); exact HO120.out) hb); have n1_ := Aside0.mk (Kd.R_lower ho0 (below_size (by repeat (first | (with_reducible first | exact HB.out | apply below_alloc | apply pw_below_drewN | apply below_drew1) | exact HB.out)))); have n2_ := Aside0.mk (below_step (by repeat (first | (with_reducible first | exact HB.out | apply below_alloc | apply pw_below_drewN | apply below_drew1) | exact HB.out)) hb); clear HO120; clear HB; have HO120 := n0_; have HO125 := n1_; have HB := n2_; clear n0_ n1_ n2_; (try clear hb); (try clear hb2); (try clear hk); (try clear hi); (try clear ho0)))
                go_ret
                exact ⟨by first | rfl | (simp [errW_none, errW_some] <;> rfl) | (simp [*, errW_none, errW_some] <;> rfl) | (simp [errW_none, errW_some]; generalize ByteArray.toList _ = l_; cases l_ <;> rfl), by repeat (first | (with_reducible first | exact HB.out | apply below_alloc | apply pw_below_drewN | apply below_drew1) | exact HB.out)⟩
            · rw [if_neg c10] at H
              have c10b0 : decide (0 ≤ t122) = false := decide_eq_false c10
              clear c10
              obtain rfl := Option.some.inj H
              go_enter Tryd.func7, Tryd.ntmps7
              go_wp2_with (first | ((with_reducible refine gate_dst (N := 14) rfl ?_); (try (refine gate_guard (by rfl) ?_; dsimp only)); refine Kd.R_lit (Kd.int .u8) _ 5 ?hg (N := 14) ?hd (xs := ([] : List Int)) (inner := []) (ok := fun _ => True) (okp := fun _ => True) ?hr ?hp (fun _ hk => hk) trivial (Below.refl _ _) (Nat.le_refl _) (by simp) ?_; (case hd => rfl); (case hg => rfl); (case hr => first | (go_simp; done) | (go_simp; rfl)); (case hp => exact (Reps.none _ _)); intro v116 w40 ho41 hb hg_ hnew_; clear hg_ hnew_; (first | rw [← Ny115.out] at ho41 | (simp only [Int.reduceToNat] at ho41; rw [← Ny115.out] at ho41)); have n0_ := Aside0.mk (Kd.R_lower ho41 (below_size (by repeat (first | (with_reducible first | exact HB.out | apply below_alloc | apply pw_below_drewN | apply below_drew1) | exact HB.out)))); have n1_ := Aside0.mk (below_step (by repeat (first | (with_reducible first | exact HB.out | apply below_alloc | apply pw_below_drewN | apply below_drew1) | exact HB.out)) hb); clear HB; have HO117 := n0_; have HB := n1_; clear n0_ n1_; clear hb ho41) | ((with_reducible refine gate_builtin (b := .append) (xs := #[.tmp 14, .tmp 15]) rfl ?_); (try (refine gate_guard (by rfl) ?_; dsimp only)); at_builtin; refine Kd.R_append_rows (Kd.int .u8) (w0 := w) w.heap.size rfl (.tmp 14) (.tmp 15) 47 5 (.int .u8 0) 1 rfl Tryd.underlying47 info5 rfl (by decide) (by omega) v116 y115 l0 _ _ _ (fun _ => True) (fun _ => False) rfl rfl ?aO ?aR (fun _ _ h => h) (fun _ h => h.elim) ?aF ?aB ?aS ?aL ?_; (case aR => repeat (first | exact (Kd.C_below HR0.out HB.out) | (with_reducible refine Kd.C_alloc ?_ _) | (with_reducible refine Kd.C_drewN ?_ _) | (with_reducible refine Kd.C_drew ?_))); (case aB => exact (by repeat (first | (with_reducible first | exact HB.out | apply below_alloc | apply pw_below_drewN | apply below_drew1) | exact HB.out))); (case aF => exact (fun _ _ => trivial)); (case aO => exact (by (with_reducible repeat (first | apply Kd.R_alloc | apply Kd.R_drewN | apply Kd.R_drew)); exact HO117.out)); (case aS => exact (below_size (by repeat (first | (with_reducible first | exact HB.out | apply below_alloc | apply pw_below_drewN | apply below_drew1) | exact HB.out)))); (case aL => have := LMc6.out; omega); intro v119 w42 ho hb hg hat; rw [← Ny118.out] at ho; have n0_ := Aside0.mk (hb); have n1_ := Aside0.mk (ho); clear HB; clear HO117; have HB := n0_; have HO120 := n1_; clear n0_ n1_; clear ho hb hg hat; obtain ⟨Ao43, co43, eo43⟩ := Kd.R_slice HO120.out; subst eo43) | ((with_reducible refine gate_callee (f := 22) rfl ?_); refine goesL_ (some 17) rfl rfl Tryd.func22 (by kernel_rfl) rfl #[.slice Ao43 y118.length co43] rfl (by (try simp only [List.map_toArray, List.map_cons, List.map_nil]); first | done | rfl | (simp only [List.length_drop, List.length_take]; rfl)) ?_; (with_reducible refine (impl_SetDecode.calls _ _ y118 t121 t122 t123 _ ?side1 ?side2 A7.out (HE_.out.below (by repeat (first | (with_reducible first | exact HB.out | apply below_alloc | apply pw_below_drewN | apply below_drew1) | exact HB.out)))).mono ?_); (case side1 => repeat (first | exact (Kd.R_reads' HO120.out).2.2 | (with_reducible refine Kd.C_alloc ?_ _) | (with_reducible refine Kd.C_drewN ?_ _) | (with_reducible refine Kd.C_drew ?_))); (case side2 => exact (Kd.R_reads' HO120.out).2.1); rintro e w44 ⟨v124, rfl, ho0, hb⟩; refine ⟨_, rfl, ?_⟩; have n0_ := Aside0.mk (Kd.R_below (by (with_reducible repeat (first | apply Kd.R_alloc | apply Kd.R_drewN | apply Kd.R_drew)); exact HO120.out) hb); have n1_ := Aside0.mk (Kd.R_lower ho0 (below_size (by repeat (first | (with_reducible first | exact HB.out | apply below_alloc | apply pw_below_drewN | apply below_drew1) | exact HB.out)))); have n2_ := Aside0.mk (below_step (by repeat (first | (with_reducible first | exact HB.out | apply below_alloc | apply pw_below_drewN | apply below_drew1) | exact HB.out)) hb); clear HO120; clear HB; have HO120 := n0_; have HO125 := n1_; have HB := n2_; clear n0_ n1_ n2_; (try clear hb); (try clear hb2); (try clear hk); (try clear hi); (try clear ho0)))
              go_ret
              exact ⟨by first | rfl | (simp [errW_none, errW_some] <;> rfl) | (simp [*, errW_none, errW_some] <;> rfl) | (simp [errW_none, errW_some]; generalize ByteArray.toList _ = l_; cases l_ <;> rfl), by repeat (first | (with_reducible first | exact HB.out | apply below_alloc | apply pw_below_drewN | apply below_drew1) | exact HB.out)⟩
          · rw [if_neg c9] at H
            have c9b0 : decide (0 < (l0.length : Int)) = false := decide_eq_false c9
            have c9b1 : decide (0 < l0.length) = false := decide_eq_false (by omega)
            clear c9
            obtain rfl := Option.some.inj H
            go_enter Tryd.func7, Tryd.ntmps7
            go_wp2_with (first | ((with_reducible refine gate_dst (N := 14) rfl ?_); (try (refine gate_guard (by rfl) ?_; dsimp only)); refine Kd.R_lit (Kd.int .u8) _ 5 ?hg (N := 14) ?hd (xs := ([] : List Int)) (inner := []) (ok := fun _ => True) (okp := fun _ => True) ?hr ?hp (fun _ hk => hk) trivial (Below.refl _ _) (Nat.le_refl _) (by simp) ?_; (case hd => rfl); (case hg => rfl); (case hr => first | (go_simp; done) | (go_simp; rfl)); (case hp => exact (Reps.none _ _)); intro v116 w45 ho46 hb hg_ hnew_; clear hg_ hnew_; (first | rw [← Ny115.out] at ho46 | (simp only [Int.reduceToNat] at ho46; rw [← Ny115.out] at ho46)); have n0_ := Aside0.mk (Kd.R_lower ho46 (below_size (by repeat (first | (with_reducible first | exact HB.out | apply below_alloc | apply pw_below_drewN | apply below_drew1) | exact HB.out)))); have n1_ := Aside0.mk (below_step (by repeat (first | (with_reducible first | exact HB.out | apply below_alloc | apply pw_below_drewN | apply below_drew1) | exact HB.out)) hb); clear HB; have HO117 := n0_; have HB := n1_; clear n0_ n1_; clear hb ho46) | ((with_reducible refine gate_builtin (b := .append) (xs := #[.tmp 14, .tmp 15]) rfl ?_); (try (refine gate_guard (by rfl) ?_; dsimp only)); at_builtin; refine Kd.R_append_rows (Kd.int .u8) (w0 := w) w.heap.size rfl (.tmp 14) (.tmp 15) 47 5 (.int .u8 0) 1 rfl Tryd.underlying47 info5 rfl (by decide) (by omega) v116 y115 l0 _ _ _ (fun _ => True) (fun _ => False) rfl rfl ?aO ?aR (fun _ _ h => h) (fun _ h => h.elim) ?aF ?aB ?aS ?aL ?_; (case aR => repeat (first | exact (Kd.C_below HR0.out HB.out) | (with_reducible refine Kd.C_alloc ?_ _) | (with_reducible refine Kd.C_drewN ?_ _) | (with_reducible refine Kd.C_drew ?_))); (case aB => exact (by repeat (first | (with_reducible first | exact HB.out | apply below_alloc | apply pw_below_drewN | apply below_drew1) | exact HB.out))); (case aF => exact (fun _ _ => trivial)); (case aO => exact (by (with_reducible repeat (first | apply Kd.R_alloc | apply Kd.R_drewN | apply Kd.R_drew)); exact HO117.out)); (case aS => exact (below_size (by repeat (first | (with_reducible first | exact HB.out | apply below_alloc | apply pw_below_drewN | apply below_drew1) | exact HB.out)))); (case aL => have := LMc6.out; omega); intro v119 w47 ho hb hg hat; rw [← Ny118.out] at ho; have n0_ := Aside0.mk (hb); have n1_ := Aside0.mk (ho); clear HB; clear HO117; have HB := n0_; have HO120 := n1_; clear n0_ n1_; clear ho hb hg hat; obtain ⟨Ao48, co48, eo48⟩ := Kd.R_slice HO120.out; subst eo48) | ((with_reducible refine gate_callee (f := 22) rfl ?_); refine goesL_ (some 17) rfl rfl Tryd.func22 (by kernel_rfl) rfl #[.slice Ao48 y118.length co48] rfl (by (try simp only [List.map_toArray, List.map_cons, List.map_nil]); first | done | rfl | (simp only [List.length_drop, List.length_take]; rfl)) ?_; (with_reducible refine (impl_SetDecode.calls _ _ y118 t121 t122 t123 _ ?side1 ?side2 A7.out (HE_.out.below (by repeat (first | (with_reducible first | exact HB.out | apply below_alloc | apply pw_below_drewN | apply below_drew1) | exact HB.out)))).mono ?_); (case side1 => repeat (first | exact (Kd.R_reads' HO120.out).2.2 | (with_reducible refine Kd.C_alloc ?_ _) | (with_reducible refine Kd.C_drewN ?_ _) | (with_reducible refine Kd.C_drew ?_))); (case side2 => exact (Kd.R_reads' HO120.out).2.1); rintro e w49 ⟨v124, rfl, ho0, hb⟩; refine ⟨_, rfl, ?_⟩; have n0_ := Aside0.mk (Kd.R_below (by (with_reducible repeat (first | apply Kd.R_alloc | apply Kd.R_drewN | apply Kd.R_drew)); exact HO120.out) hb); have n1_ := Aside0.mk (Kd.R_lower ho0 (below_size (by repeat (first | (with_reducible first | exact HB.out | apply below_alloc | apply pw_below_drewN | apply below_drew1) | exact HB.out)))); have n2_ := Aside0.mk (below_step (by repeat (first | (with_reducible first | exact HB.out | apply below_alloc | apply pw_below_drewN | apply below_drew1) | exact HB.out)) hb); clear HO120; clear HB; have HO120 := n0_; have HO125 := n1_; have HB := n2_; clear n0_ n1_ n2_; (try clear hb); (try clear hb2); (try clear hk); (try clear hi); (try clear ho0)))
            go_ret
            exact ⟨by first | rfl | (simp [errW_none, errW_some] <;> rfl) | (simp [*, errW_none, errW_some] <;> rfl) | (simp [errW_none, errW_some]; generalize ByteArray.toList _ = l_; cases l_ <;> rfl), by repeat (first | (with_reducible first | exact HB.out | apply below_alloc | apply pw_below_drewN | apply below_drew1) | exact HB.out)⟩
        · rw [if_neg c8] at H
          have c8b0 : (t123 == 0) = false := beq_eq_false_iff_ne.mpr c8
          have c8b1 : (t123 != 0) = true := bne_iff_ne.mpr c8
          replace H := Option.bind_eq_some_iff.mp H
          obtain ⟨t128, A500, H⟩ := H
          replace H : (some t128) = some r := H
          have A50 := Aside0.mk A500
          clear A500
          obtain rfl := Option.some.inj H
          go_enter Tryd.func7, Tryd.ntmps7
          go_wp2_with (first | ((with_reducible refine gate_dst (N := 14) rfl ?_); (try (refine gate_guard (by rfl) ?_; dsimp only)); refine Kd.R_lit (Kd.int .u8) _ 5 ?hg (N := 14) ?hd (xs := ([] : List Int)) (inner := []) (ok := fun _ => True) (okp := fun _ => True) ?hr ?hp (fun _ hk => hk) trivial (Below.refl _ _) (Nat.le_refl _) (by simp) ?_; (case hd => rfl); (case hg => rfl); (case hr => first | (go_simp; done) | (go_simp; rfl)); (case hp => exact (Reps.none _ _)); intro v116 w51 ho52 hb hg_ hnew_; clear hg_ hnew_; (first | rw [← Ny115.out] at ho52 | (simp only [Int.reduceToNat] at ho52; rw [← Ny115.out] at ho52)); have n0_ := Aside0.mk (Kd.R_lower ho52 (below_size (by repeat (first | (with_reducible first | exact HB.out | apply below_alloc | apply pw_below_drewN | apply below_drew1) | exact HB.out)))); have n1_ := Aside0.mk (below_step (by repeat (first | (with_reducible first | exact HB.out | apply below_alloc | apply pw_below_drewN | apply below_drew1) | exact HB.out)) hb); clear HB; have HO117 := n0_; have HB := n1_; clear n0_ n1_; clear hb ho52) | ((with_reducible refine gate_builtin (b := .append) (xs := #[.tmp 14, .tmp 15]) rfl ?_); (try (refine gate_guard (by rfl) ?_; dsimp only)); at_builtin; refine Kd.R_append_rows (Kd.int .u8) (w0 := w) w.heap.size rfl (.tmp 14) (.tmp 15) 47 5 (.int .u8 0) 1 rfl Tryd.underlying47 info5 rfl (by decide) (by omega) v116 y115 l0 _ _ _ (fun _ => True) (fun _ => False) rfl rfl ?aO ?aR (fun _ _ h => h) (fun _ h => h.elim) ?aF ?aB ?aS ?aL ?_; (case aR => repeat (first | exact (Kd.C_below HR0.out HB.out) | (with_reducible refine Kd.C_alloc ?_ _) | (with_reducible refine Kd.C_drewN ?_ _) | (with_reducible refine Kd.C_drew ?_))); (case aB => exact (by repeat (first | (with_reducible first | exact HB.out | apply below_alloc | apply pw_below_drewN | apply below_drew1) | exact HB.out))); (case aF => exact (fun _ _ => trivial)); (case aO => exact (by (with_reducible repeat (first | apply Kd.R_alloc | apply Kd.R_drewN | apply Kd.R_drew)); exact HO117.out)); (case aS => exact (below_size (by repeat (first | (with_reducible first | exact HB.out | apply below_alloc | apply pw_below_drewN | apply below_drew1) | exact HB.out)))); (case aL => have := LMc6.out; omega); intro v119 w53 ho hb hg hat; rw [← Ny118.out] at ho; have n0_ := Aside0.mk (hb); have n1_ := Aside0.mk (ho); clear HB; clear HO117; have HB := n0_; have HO120 := n1_; clear n0_ n1_; clear ho hb hg hat; obtain ⟨Ao54, co54, eo54⟩ := Kd.R_slice HO120.out; subst eo54) | ((with_reducible refine gate_callee (f := 22) rfl ?_); refine goesL_ (some 17) rfl rfl Tryd.func22 (by kernel_rfl) rfl #[.slice Ao54 y118.length co54] rfl (by (try simp only [List.map_toArray, List.map_cons, List.map_nil]); first | done | rfl | (simp only [List.length_drop, List.length_take]; rfl)) ?_; (with_reducible refine (impl_SetDecode.calls _ _ y118 t121 t122 t123 _ ?side1 ?side2 A7.out (HE_.out.below (by repeat (first | (with_reducible first | exact HB.out | apply below_alloc | apply pw_below_drewN | apply below_drew1) | exact HB.out)))).mono ?_); (case side1 => repeat (first | exact (Kd.R_reads' HO120.out).2.2 | (with_reducible refine Kd.C_alloc ?_ _) | (with_reducible refine Kd.C_drewN ?_ _) | (with_reducible refine Kd.C_drew ?_))); (case side2 => exact (Kd.R_reads' HO120.out).2.1); rintro e w55 ⟨v124, rfl, ho0, hb⟩; refine ⟨_, rfl, ?_⟩; have n0_ := Aside0.mk (Kd.R_below (by (with_reducible repeat (first | apply Kd.R_alloc | apply Kd.R_drewN | apply Kd.R_drew)); exact HO120.out) hb); have n1_ := Aside0.mk (Kd.R_lower ho0 (below_size (by repeat (first | (with_reducible first | exact HB.out | apply below_alloc | apply pw_below_drewN | apply below_drew1) | exact HB.out)))); have n2_ := Aside0.mk (below_step (by repeat (first | (with_reducible first | exact HB.out | apply below_alloc | apply pw_below_drewN | apply below_drew1) | exact HB.out)) hb); clear HO120; clear HB; have HO120 := n0_; have HO125 := n1_; have HB := n2_; clear n0_ n1_ n2_; (try clear hb); (try clear hb2); (try clear hk); (try clear hi); (try clear ho0)) | ((with_reducible refine gate_callee (f := 12) rfl ?_); refine goesL_ (some 23) rfl rfl Tryd.func12 (by kernel_rfl) rfl #[] rfl (by (try simp only [List.map_toArray, List.map_cons, List.map_nil]); first | done | rfl | (simp only [List.length_drop, List.length_take]; rfl)) ?_; (with_reducible refine (laws_awakeSet.calls  t128 _ A50.out (HE_.out.below (by repeat (first | (with_reducible first | exact HB.out | apply below_alloc | apply pw_below_drewN | apply below_drew1) | exact HB.out)))).mono ?_); rintro e w56 ⟨rfl, hb⟩; refine ⟨_, rfl, ?_⟩; have n0_ := Aside0.mk (Kd.R_below (by (with_reducible repeat (first | apply Kd.R_alloc | apply Kd.R_drewN | apply Kd.R_drew)); exact HO120.out) hb); have n1_ := Aside0.mk (Kd.R_below (by (with_reducible repeat (first | apply Kd.R_alloc | apply Kd.R_drewN | apply Kd.R_drew)); exact HO125.out) hb); have n2_ := Aside0.mk (below_step (by repeat (first | (with_reducible first | exact HB.out | apply below_alloc | apply pw_below_drewN | apply below_drew1) | exact HB.out)) hb); clear HO120; clear HO125; clear HB; have HO120 := n0_; have HO125 := n1_; have HB := n2_; clear n0_ n1_ n2_; (try clear hb); (try clear hb2); (try clear hk); (try clear hi)))
          go_ret
          exact ⟨by first | rfl | (simp [errW_none, errW_some] <;> rfl) | (simp [*, errW_none, errW_some] <;> rfl) | (simp [errW_none, errW_some]; generalize ByteArray.toList _ = l_; cases l_ <;> rfl), by repeat (first | (with_reducible first | exact HB.out | apply below_alloc | apply pw_below_drewN | apply below_drew1) | exact HB.out)⟩
      · rw [if_neg c6] at H
        exact absurd H (by simp)


end Go.Proofs.YtjhdnapgdajllaaDoor.PFnSetDecode
