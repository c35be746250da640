-- Written by hprint.py (this session's program, over the kit's printing program, with this session's own contracts in it). Not trusted: Lean checks it.
import Derived.Test.YtaobajfdnidkfaaDoorPFnPubx0
import Derived.Test.YtaobajfdnidkfaaDoorPFnPubx1
import Derived.Test.YtaobajfdnidkfaaDoorPFnPubx4
namespace Go.Proofs.YtaobajfdnidkfaaDoor.PFnPub
open Go.RowKit Go.Proofs.YtaobajfdnidkfaaDoorW.PrintWords Go.Proofs.YtaobajfdnidkfaaDoorW.PrintLast Go.Proofs.YtaobajfdnidkfaaDoorW.PrintMore
attribute [local go_sem] max2_int min2_int max_two min_two max_three min_three max_four min_four   -- for this text's walks alone
set_option linter.unusedVariables false
set_option linter.unusedSimpArgs false

/-! ### spec_ReadPub: function 6 -/
def spec_ReadPub.j0 : Nat → List ByteArray → Bool → Option (ByteArray × ByteArray × Int × Bool)
  | 0, _, _ => none
  | k + 1, x4, x15 => if x15 = true then (some ((⟨#[]⟩ : ByteArray), (⟨#[]⟩ : ByteArray), 0, false)) else (if 0 < (x4.length : Int) then (if 0 ≤ (wrap64 ((x4.length : Int) - 1)) then (if (wrap64 ((x4.length : Int) - 1)) < (x4.length : Int) then ((spec_Size.f k (rdOf ByteArray.empty x4 (wrap64 ((x4.length : Int) - 1)))).bind fun t112 => (if (x4.length : Int) = 3 then (if 1 < (x4.length : Int) then (some (rdOf ByteArray.empty x4 0, rdOf ByteArray.empty x4 1, t112, decide (t112 ≥ 0))) else (none)) else (some (rdOf ByteArray.empty x4 0, (⟨#[]⟩ : ByteArray), t112, decide (t112 ≥ 0))))) else (none)) else (none)) else (none))
def spec_ReadPub.f (k : Nat) (a0 : ByteArray) : Option (ByteArray × ByteArray × Int × Bool) := (spec_Words.f k a0).bind fun t107 => (if (t107.length : Int) < 2 then (spec_ReadPub.j0 k t107 true) else (spec_ReadPub.j0 k t107 (decide ((t107.length : Int) > 3))))
theorem spec_ReadPub.mono_l : ∀ k, (∀ y0 y1, LeO (spec_ReadPub.j0 k y0 y1) (spec_ReadPub.j0 (k + 1) y0 y1))
  | 0 => fun _ _ r h => by simp [spec_ReadPub.j0] at h
  | k + 1 => by
    have ih0 := spec_ReadPub.mono_l k
    · intro y0 y1
      unfold spec_ReadPub.j0
      repeat' first
      | (with_reducible exact ih0 _ _)
      | (with_reducible exact spec_Size.mono _ _)
      | (with_reducible exact spec_Words.mono _ _)
      | (with_reducible exact LeO.refl _)
      | (with_reducible exact LeO.none _)
      | (with_reducible refine LeO.ite ?_ ?_)
      | (with_reducible refine LeO.bind ?_ (fun _ => ?_))
      | exact ih0 _ _
      | exact spec_Size.mono _ _
      | exact spec_Words.mono _ _
      | exact LeO.none _
      | refine LeO.ite ?_ ?_
      | refine LeO.bind ?_ (fun _ => ?_)
theorem spec_ReadPub.mono : ∀ a0 k, LeO (spec_ReadPub.f k a0) (spec_ReadPub.f (k + 1) a0) := by
  intro a0 k
  have ih0 := spec_ReadPub.mono_l k
  unfold spec_ReadPub.f
  repeat' first
      | (with_reducible exact ih0 _ _)
      | (with_reducible exact spec_Size.mono _ _)
      | (with_reducible exact spec_Words.mono _ _)
      | (with_reducible exact LeO.refl _)
      | (with_reducible exact LeO.none _)
      | (with_reducible refine LeO.ite ?_ ?_)
      | (with_reducible refine LeO.bind ?_ (fun _ => ?_))
      | exact ih0 _ _
      | exact spec_Size.mono _ _
      | exact spec_Words.mono _ _
      | exact LeO.none _
      | refine LeO.ite ?_ ?_
      | refine LeO.bind ?_ (fun _ => ?_)
def spec_ReadPub.T4 : Bool × List (List Nat × List Nat) := (true, [([], []), ([0], [0]), ([1], [1]), ([], []), ([], []), ([4], [4]), ([5], [5]), ([3, 6], [3, 6]), ([7], [7]), ([8], [8]), ([2, 9], [2, 9]), ([], []), ([11, 10, 9, 0, 1, 2, 3, 4, 5, 6, 7, 8, 9, 10, 11], [10, 11])])
def spec_ReadPub.B4 : List Nat := [0, 1, 3, 0, 0, 16, 48, 120, 248, 504, 1023, 0, 4095]
theorem spec_ReadPub.tab4 : rtab .any (opsOf Tryd.f6 4) = spec_ReadPub.T4 := by kernel_rfl
theorem spec_ReadPub.bits4 : waitsOk spec_ReadPub.T4.2 spec_ReadPub.B4 = true := by kernel_rfl
set_option maxHeartbeats 8000000 in
set_option maxRecDepth 100000 in
theorem spec_ReadPub.calls (k : Nat) (a0 : ByteArray) (r1 : ByteArray) (r2 : ByteArray) (r3 : Int) (r4 : Bool) (w : World) (h : spec_ReadPub.f k a0 = some (r1, r2, r3, r4)) :
    Calls Tryd.prog 6 #[.string a0] w fun e w' => e = .returned (.tuple #[.agg #[.string r1, .string r2, .int .i64 r3], .bool r4]) ∧ Below w.heap.size w w' := by
  have hu25 := Tryd.underlying25
  have HB := Aside0.mk (Below.refl w.heap.size w)
  have H : ((spec_Words.f k a0).bind fun t107 => (if (t107.length : Int) < 2 then (spec_ReadPub.j0 k t107 true) else (spec_ReadPub.j0 k t107 (decide ((t107.length : Int) > 3))))) = some (r1, r2, r3, r4) := h
  clear h
  replace H := Option.bind_eq_some_iff.mp H
  obtain ⟨t107, A20, H⟩ := H
  replace H : (if (t107.length : Int) < 2 then (spec_ReadPub.j0 k t107 true) else (spec_ReadPub.j0 k t107 (decide ((t107.length : Int) > 3)))) = some (r1, r2, r3, r4) := H
  have A2 := Aside0.mk A20
  clear A20
  have HC3 := Aside0.mk H
  clear H
  go_enter Tryd.func6, Tryd.ntmps6
  go_upto_region 2 with (first | ((with_reducible refine gate_dst (N := 2) rfl ?_); (try (refine gate_guard (by rfl) ?_; dsimp only)); refine box_event ?hg (N := 2) ?hd (cs := #[.string (⟨#[]⟩ : ByteArray), .string (⟨#[]⟩ : ByteArray), .int .i64 0]) (t := 25) ?hr ?_; (case hd => rfl); (case hg => rfl); (case hr => first | (go_simp; done) | (go_simp; rfl)); intro gb106 hg w4 hbox hb; have n0_ := Aside0.mk (below_step (by repeat (first | (with_reducible first | exact HB.out | apply below_alloc | apply pw_below_drewN | apply below_drew1) | exact HB.out)) hb); have n1_ := Aside0.mk (hbox); have n2_ := Aside0.mk ((by rw [hg]; exact (below_size (by repeat (first | (with_reducible first | exact HB.out | apply below_alloc | apply pw_below_drewN | apply below_drew1) | exact HB.out))) : w.heap.size ≤ gb106)); have n3_ := Aside0.mk ((by rw [hg]; exact (below_size (by repeat (first | (with_reducible first | exact HB.out | apply below_alloc | apply pw_below_drewN | apply below_drew1) | exact HB.out))) : w.heap.size ≤ gb106)); clear HB; have HB := n0_; have BK106 := n1_; have GW106 := n2_; have GE106 := n3_; clear n0_ n1_ n2_ n3_; clear hb hbox hg) | ((with_reducible refine gate_callee (f := 10) rfl ?_); refine goesL_ (some 7) rfl rfl Tryd.func10 (by kernel_rfl) rfl #[.string a0] rfl (by (try simp only [List.map_toArray, List.map_cons, List.map_nil]); first | done | rfl | (simp only [List.length_drop, List.length_take]; rfl)) ?_; (with_reducible refine (spec_Words.calls k a0 t107 _ A2.out).mono ?_); rintro e w5 ⟨v108, rfl, ho0, hb⟩; refine ⟨_, rfl, ?_⟩; have n0_ := Aside0.mk (Kd.R_lower ho0 (below_size (by repeat (first | (with_reducible first | exact HB.out | apply below_alloc | apply pw_below_drewN | apply below_drew1 | refine below_set ?_ GE106.out) | exact HB.out)))); have n1_ := Aside0.mk (blk_below (g := gb106) (o := .cells #[.string (⟨#[]⟩ : ByteArray), .string (⟨#[]⟩ : ByteArray), .int .i64 0] 25 (0, 0)) (by (with_reducible repeat (first | refine blk_drewN ?_ _ | refine blk_drew ?_ | refine blk_alloc ?_ _)); exact BK106.out) hb); have n2_ := Aside0.mk (below_step (by repeat (first | (with_reducible first | exact HB.out | apply below_alloc | apply pw_below_drewN | apply below_drew1 | refine below_set ?_ GE106.out) | exact HB.out)) hb); clear BK106; clear HB; have HO109 := n0_; have BK106 := n1_; have HB := n2_; clear n0_ n1_ n2_; (try clear hb); (try clear hb2); (try clear hk); (try clear hi); (try clear ho0)))
  (try simp only [Act.put, List.setIfInBounds_toArray, List.set_cons_zero, List.set_cons_succ])
  go_cut [15] (fun v15 wc => ∃ (kq : Nat) (x15_2 : Bool), v15 = .bool x15_2 ∧ Aside0 (spec_ReadPub.j0 kq t107 x15_2 = some (r1, r2, r3, r4)) ∧ Aside0 (kq ≤ k) ∧ Aside0 (Kd.R Kd.string 9 wc w.heap.size (fun _ => True) v108 t107) ∧ Aside0 (wc.heap[gb106]? = some (.cells #[.string (⟨#[]⟩ : ByteArray), .string (⟨#[]⟩ : ByteArray), .int .i64 0] 25 (0, 0))) ∧ Aside0 (Below w.heap.size w wc))
  case first =>
    have H := HC3.out
    clear HC3
    by_cases c6 : (t107.length : Int) < 2
    · rw [if_pos c6] at H
      have c6b0 : decide ((t107.length : Int) < 2) = true := decide_eq_true c6
      have c6b1 : decide (t107.length < 2) = true := decide_eq_true (by omega)
      clear c6
      (first | rw [c6b0] | (simp only [i64_w, i32_w]; rw [c6b0]) | skip)
      have H' := Aside0.mk H
      clear H
      obtain ⟨Ao7, co7, eo7⟩ := Kd.R_slice HO109.out
      subst eo7
      go_wp2
      go_meet
      case rel => exact ⟨_, (true), (by first | rfl | (simp; done) | (simp [*]; done)), H', ⟨by first | omega | exact Nat.le_refl _⟩, ⟨by (with_reducible repeat (first | apply Kd.R_alloc | apply Kd.R_drewN | apply Kd.R_drew)); exact HO109.out⟩, ⟨by (with_reducible repeat (first | refine blk_drewN ?_ _ | refine blk_drew ?_ | refine blk_alloc ?_ _)); exact BK106.out⟩, ⟨by repeat (first | (with_reducible first | exact HB.out | apply below_alloc | apply pw_below_drewN | apply below_drew1 | refine below_set ?_ GE106.out) | exact HB.out)⟩⟩
    · rw [if_neg c6] at H
      have c6b0 : decide ((t107.length : Int) < 2) = false := decide_eq_false c6
      have c6b1 : decide (t107.length < 2) = false := decide_eq_false (by omega)
      clear c6
      (first | rw [c6b0] | (simp only [i64_w, i32_w]; rw [c6b0]) | skip)
      have H' := Aside0.mk H
      clear H
      obtain ⟨Ao8, co8, eo8⟩ := Kd.R_slice HO109.out
      subst eo8
      go_wp2
      go_meet
      case rel => exact ⟨_, (decide ((t107.length : Int) > 3)), (by first | rfl | (simp; done) | (simp [*]; done)), H', ⟨by first | omega | exact Nat.le_refl _⟩, ⟨by (with_reducible repeat (first | apply Kd.R_alloc | apply Kd.R_drewN | apply Kd.R_drew)); exact HO109.out⟩, ⟨by (with_reducible repeat (first | refine blk_drewN ?_ _ | refine blk_drew ?_ | refine blk_alloc ?_ _)); exact BK106.out⟩, ⟨by repeat (first | (with_reducible first | exact HB.out | apply below_alloc | apply pw_below_drewN | apply below_drew1 | refine below_set ?_ GE106.out) | exact HB.out)⟩⟩
  case rest =>
    clear HC3
    try clear c1
    try clear p2
    try clear c6
    try clear c6b0
    try clear c6b1
    obtain ⟨kq, x15_2, rfl, HA, HJ2, HO_4, BK106, HB⟩ := hcut
    cases kq with
    | zero => exact absurd HA.out (by simp [spec_ReadPub.j0])
    | succ kj2 =>
      have H := HA.out
      clear HA
      simp only [spec_ReadPub.j0] at H
      by_cases c9 : x15_2 = true
      · subst c9
        have H1 : (some ((⟨#[]⟩ : ByteArray), (⟨#[]⟩ : ByteArray), 0, false)) = some (r1, r2, r3, r4) := by rw [if_pos rfl] at H; exact H
        clear H
        have H := H1
        clear H1
        simp only [Option.some.injEq, Prod.mk.injEq] at H
        obtain ⟨rfl, rfl, rfl, rfl⟩ := H
        have hcz10_0 : wc.cell? ⟨gb106, 0, none⟩ = some (.string (⟨#[]⟩ : ByteArray)) := (blk_cell BK106.out 0).trans rfl
        have hcz10_1 : wc.cell? ⟨gb106, 1, none⟩ = some (.string (⟨#[]⟩ : ByteArray)) := (blk_cell BK106.out 1).trans rfl
        have hcz10_2 : wc.cell? ⟨gb106, 2, none⟩ = some (.int .i64 0) := (blk_cell BK106.out 2).trans rfl
        have hfz10_0 := blk_frozen BK106.out 0
        have hfz10_1 := blk_frozen BK106.out 1
        have hfz10_2 := blk_frozen BK106.out 2
        go_wp2
        refine bodyPost_ret (results_ct rfl _ _ gb106 25 #[.string (⟨#[]⟩ : ByteArray), .string (⟨#[]⟩ : ByteArray), .int .i64 0] (0, 0) _ rfl (by (with_reducible repeat (first | refine blk_drewN ?_ _ | refine blk_drew ?_ | refine blk_alloc ?_ _)); refine blk_put (cs := #[.string (⟨#[]⟩ : ByteArray), .string (⟨#[]⟩ : ByteArray), .int .i64 0]) ?_ 2 _ rfl; (with_reducible repeat (first | refine blk_drewN ?_ _ | refine blk_drew ?_ | refine blk_alloc ?_ _)); refine blk_put (cs := #[.string (⟨#[]⟩ : ByteArray), .string (⟨#[]⟩ : ByteArray), .int .i64 0]) ?_ 1 _ rfl; (with_reducible repeat (first | refine blk_drewN ?_ _ | refine blk_drew ?_ | refine blk_alloc ?_ _)); refine blk_put (cs := #[.string (⟨#[]⟩ : ByteArray), .string (⟨#[]⟩ : ByteArray), .int .i64 0]) ?_ 0 _ rfl; (with_reducible repeat (first | refine blk_drewN ?_ _ | refine blk_drew ?_ | refine blk_alloc ?_ _)); exact BK106.out) Tryd.underlying25 rfl (by kernel_rfl)) rfl ?_
        exact ⟨by first | rfl | (simp [errW_none, errW_some] <;> rfl) | (simp [*, errW_none, errW_some] <;> rfl) | (simp [errW_none, errW_some]; generalize ByteArray.toList _ = l_; cases l_ <;> rfl), by repeat (first | (with_reducible first | exact HB.out | apply below_alloc | apply pw_below_drewN | apply below_drew1 | refine below_set ?_ GE106.out) | exact HB.out)⟩
      · replace c9 := Bool.eq_false_iff.mpr c9
        subst c9
        have H1 : (if 0 < (t107.length : Int) then (if 0 ≤ (wrap64 ((t107.length : Int) - 1)) then (if (wrap64 ((t107.length : Int) - 1)) < (t107.length : Int) then ((spec_Size.f kj2 (rdOf ByteArray.empty t107 (wrap64 ((t107.length : Int) - 1)))).bind fun t112 => (if (t107.length : Int) = 3 then (if 1 < (t107.length : Int) then (some (rdOf ByteArray.empty t107 0, rdOf ByteArray.empty t107 1, t112, decide (t112 ≥ 0))) else (none)) else (some (rdOf ByteArray.empty t107 0, (⟨#[]⟩ : ByteArray), t112, decide (t112 ≥ 0))))) else (none)) else (none)) else (none)) = some (r1, r2, r3, r4) := by rw [if_neg (show ¬ (false = true) by decide)] at H; exact H
        clear H
        have H := H1
        clear H1
        by_cases c11 : 0 < (t107.length : Int)
        · rw [if_pos c11] at H
          have c11b0 : decide (0 < (t107.length : Int)) = true := decide_eq_true c11
          have c11b1 : decide (0 < t107.length) = true := decide_eq_true (by omega)
          clear c11
          obtain ⟨ji12, hji12⟩ : ∃ j_ : Int, (wrap64 ((t107.length : Int) - 1)) = j_ := ⟨_, rfl⟩
          replace H : (if 0 ≤ (ji12) then (if (ji12) < (t107.length : Int) then ((spec_Size.f kj2 (rdOf ByteArray.empty t107 (ji12))).bind fun t112 => (if (t107.length : Int) = 3 then (if 1 < (t107.length : Int) then (some (rdOf ByteArray.empty t107 0, rdOf ByteArray.empty t107 1, t112, decide (t112 ≥ 0))) else (none)) else (some (rdOf ByteArray.empty t107 0, (⟨#[]⟩ : ByteArray), t112, decide (t112 ≥ 0))))) else (none)) else (none)) = some (r1, r2, r3, r4) := by first | (rw [hji12] at H; exact H) | (simp only [hji12] at H ⊢; exact H)
          have hji12w : (IntKind.i64.wrap ((t107.length : Int) - 1)) = ji12 := (i64_w _).trans hji12
          by_cases c13 : 0 ≤ (ji12)
          · rw [if_pos c13] at H
            have c13b0 : decide (0 ≤ (ji12)) = true := decide_eq_true c13
            clear c13
            by_cases c14 : (ji12) < (t107.length : Int)
            · rw [if_pos c14] at H
              have c14b0 : decide ((ji12) < (t107.length : Int)) = true := decide_eq_true c14
              clear c14
              replace H := Option.bind_eq_some_iff.mp H
              obtain ⟨t112, A150, H⟩ := H
              replace H : (if (t107.length : Int) = 3 then (if 1 < (t107.length : Int) then (some (rdOf ByteArray.empty t107 0, rdOf ByteArray.empty t107 1, t112, decide (t112 ≥ 0))) else (none)) else (some (rdOf ByteArray.empty t107 0, (⟨#[]⟩ : ByteArray), t112, decide (t112 ≥ 0)))) = some (r1, r2, r3, r4) := H
              have A15 := Aside0.mk A150
              clear A150
              by_cases c16 : (t107.length : Int) = 3
              · rw [if_pos c16] at H
                have c16b0 : ((t107.length : Int) == 3) = true := beq_iff_eq.mpr c16
                have c16b1 : ((t107.length : Int) != 3) = false := bne_eq_false_iff_eq.mpr c16
                clear c16
                by_cases c17 : 1 < (t107.length : Int)
                · rw [if_pos c17] at H
                  have c17b0 : decide (1 < (t107.length : Int)) = true := decide_eq_true c17
                  have c17b1 : decide (1 < t107.length) = true := decide_eq_true (by omega)
                  clear c17
                  simp only [Option.some.injEq, Prod.mk.injEq] at H
                  obtain ⟨rfl, rfl, rfl, rfl⟩ := H
                  try go_wp2
                  have n0_ := Aside0.mk (Kd.R_drew HO_4.out)
                  have n1_ := Aside0.mk (blk_drew BK106.out)
                  have n2_ := Aside0.mk (below_drew1 HB.out)
                  clear HO_4
                  clear BK106
                  clear HB
                  have HO_4 := n0_
                  have BK106 := n1_
                  have HB := n2_
                  clear n0_ n1_ n2_
                  obtain ⟨Ao19, co19, eo19⟩ := Kd.R_slice HO_4.out
                  (first | subst eo19 | (injection eo19 with f1_ f2_ f3_; have f4_ := f1_.symm; have f5_ := f3_.symm; clear f1_ f2_ f3_; subst f4_; subst f5_))
                  have p110 : 0 ≤ (0 : Int) := (by omega)
                  have q110 : 0 < (t107.length : Int) := of_decide_eq_true (by first | (with_reducible assumption) | assumption)
                  obtain ⟨ad110, e110, hx110_0⟩ := Kd.at_string (Kd.R_reads' HO_4.out).2.2 0 p110 q110
                  cases e110
                  have qi110 : (0 < t107.length) = True := eq_true (by omega)
                  (try rw [show ((0 : Int)).toNat = 0 from rfl] at hx110_0)
                  (try rw [Addr.add_zero'] at hx110_0)
                  replace p110 := eq_true p110
                  replace q110 := eq_true q110
                  have p111 : 0 ≤ ((ji12) : Int) := of_decide_eq_true (by first | (with_reducible assumption) | assumption)
                  have q111 : (ji12) < (t107.length : Int) := of_decide_eq_true (by first | (with_reducible assumption) | assumption)
                  obtain ⟨ad111, e111, hx111_0⟩ := Kd.at_string (Kd.R_reads' HO_4.out).2.2 (ji12) p111 q111
                  obtain rfl : ad110 = ad111 := (by injection e111)
                  replace p111 := eq_true p111
                  replace q111 := eq_true q111
                  refine start_ (n := 13) (S := fun w' => w'.cell? ad110 = some (.string (rdOf ByteArray.empty t107 0)) ∧ w'.cell? (ad110.add ((ji12)).toNat) = some (.string (rdOf ByteArray.empty t107 (ji12)))) (ds := []) #[false, false, false, false, false, false, false, false, false, false, false, false, false] (by kernel_rfl) rfl rfl ⟨hx110_0, hx111_0⟩ (fun hHeld => ?_); refine with_tabW spec_ReadPub.tab4 spec_ReadPub.bits4 (fun HT_ HW_ => ?_)
                  generalize wc.drew = w18 at HO_4 BK106 HB hx110_0 hx111_0 hHeld ⊢
                  refine pure_ (i := 0) (N := some 17) (v := ?_) (a' := ?_) #[true, false, false, false, false, false, false, false, false, false, false, false, false] rfl rfl (any_of HT_.out (by kernel_rfl)) (fun _ _ _ h => h) (Or.inl ⟨by rfl, ?_⟩) ?_ ?_
                  rotate_left
                  · intro w'
                    go_simp
                    with_reducible rfl
                  rotate_left
                  · simp only [Act.put, List.setIfInBounds_toArray, List.set_cons_zero, List.set_cons_succ, i64_w, i32_w]
                    rfl
                  refine pure_ (i := 1) (N := some 18) (v := ?_) (a' := ?_) #[true, true, false, false, false, false, false, false, false, false, false, false, false] rfl rfl (any_of HT_.out (by kernel_rfl)) (fun _ _ _ h => h) (Or.inl ⟨by rfl, ?_⟩) ?_ ?_
                  rotate_left
                  · intro w'
                    go_simp
                    with_reducible rfl
                  rotate_left
                  · simp only [Act.put, List.setIfInBounds_toArray, List.set_cons_zero, List.set_cons_succ, i64_w, i32_w]
                    rfl
                  refine pure_ (i := 3) (N := some 20) (v := ?_) (a' := ?_) #[true, true, false, true, false, false, false, false, false, false, false, false, false] rfl rfl (any_of HT_.out (by kernel_rfl)) (fun _ _ _ h => h) (Or.inl ⟨by rfl, ?_⟩) ?_ ?_
                  rotate_left
                  · intro w'
                    go_simp
                    with_reducible rfl
                  rotate_left
                  · simp only [Act.put, List.setIfInBounds_toArray, List.set_cons_zero, List.set_cons_succ, i64_w, i32_w]
                    rfl
                  refine pure_ (i := 4) (N := some 21) (v := ?_) (a' := ?_) #[true, true, false, true, true, false, false, false, false, false, false, false, false] rfl rfl (any_of HT_.out (by kernel_rfl)) (fun _ _ _ h => h) (Or.inl ⟨by rfl, ?_⟩) ?_ ?_
                  rotate_left
                  · intro w'
                    go_simp
                    with_reducible rfl
                  rotate_left
                  · simp only [Act.put, List.setIfInBounds_toArray, List.set_cons_zero, List.set_cons_succ, i64_w, i32_w]
                    rfl
                  refine pure_ (i := 5) (N := some 22) (v := ?_) (a' := ?_) #[true, true, false, true, true, true, false, false, false, false, false, false, false] rfl rfl (any_of HT_.out (by kernel_rfl)) (fun _ _ _ h => h) (Or.inl ⟨by rfl, ?_⟩) ?_ ?_
                  rotate_left
                  · intro w'
                    go_simp
                    with_reducible rfl
                  rotate_left
                  · simp only [Act.put, List.setIfInBounds_toArray, List.set_cons_zero, List.set_cons_succ, i64_w, i32_w]
                    rfl
                  refine pure_ (i := 6) (N := some 23) (v := ?_) (a' := ?_) #[true, true, false, true, true, true, true, false, false, false, false, false, false] rfl rfl (any_of HT_.out (by kernel_rfl)) (fun _ _ _ h => h) (Or.inl ⟨by rfl, ?_⟩) ?_ ?_
                  rotate_left
                  · intro w'
                    go_simp
                    with_reducible rfl
                  rotate_left
                  · simp only [Act.put, List.setIfInBounds_toArray, List.set_cons_zero, List.set_cons_succ, i64_w, i32_w]
                    rfl
                  refine pure_ (i := 7) (N := some 24) (v := ?_) (a' := ?_) #[true, true, false, true, true, true, true, true, false, false, false, false, false] rfl rfl (any_of HT_.out (by kernel_rfl)) (fun _ _ _ h => h) (Or.inl ⟨by rfl, ?_⟩) ?_ ?_
                  rotate_left
                  · intro w'
                    go_simp
                    with_reducible rfl
                  rotate_left
                  · simp only [Act.put, List.setIfInBounds_toArray, List.set_cons_zero, List.set_cons_succ, i64_w, i32_w]
                    rfl
                  refine take_ (i := 2) (N := some 19) (v := ?_) (a' := ?_) #[true, true, true, true, true, true, true, true, false, false, false, false, false] rfl rfl (take_ofW HT_.out HW_.out (by kernel_rfl)) (fun _ _ _ h => h) (Or.inl ⟨by rfl, ?_⟩) hHeld ?_ ?_
                  rotate_left
                  · rintro w' ⟨s0, s1⟩
                    go_simp
                    with_reducible rfl
                  rotate_left
                  · simp only [Act.put, List.setIfInBounds_toArray, List.set_cons_zero, List.set_cons_succ, i64_w, i32_w]
                    rfl
                  refine take_ (i := 8) (N := some 25) (v := ?_) (a' := ?_) #[true, true, true, true, true, true, true, true, true, false, false, false, false] rfl rfl (take_ofW HT_.out HW_.out (by kernel_rfl)) (fun _ _ _ h => h) (Or.inl ⟨by rfl, ?_⟩) hHeld ?_ ?_
                  rotate_left
                  · rintro w' ⟨s0, s1⟩
                    go_simp
                    with_reducible rfl
                  rotate_left
                  · simp only [Act.put, List.setIfInBounds_toArray, List.set_cons_zero, List.set_cons_succ, i64_w, i32_w]
                    rfl
                  refine join_ (σ := Nat) 1 #[true, true, true, true, true, true, true, true, true, true, true, true, false] (fun s_ => [(26, .int .i64 t112), (5, .pointer (some ⟨s_, 0, none⟩)), (27, .agg #[.string (rdOf ByteArray.empty t107 0), .string (⟨#[]⟩ : ByteArray), .int .i64 t112])]) (fun s_ w' => (w'.cell? ad110 = some (.string (rdOf ByteArray.empty t107 0)) ∧ w'.cell? (ad110.add ((ji12)).toNat) = some (.string (rdOf ByteArray.empty t107 (ji12)))) ∧ (Kd.R Kd.string 9 w' w.heap.size (fun _ => True) (.slice (some ad110) t107.length co19) t107) ∧ (w'.heap[gb106]? = some (.cells #[.string (⟨#[]⟩ : ByteArray), .string (⟨#[]⟩ : ByteArray), .int .i64 0] 25 (0, 0))) ∧ (w'.heap[s_]? = some (.cells #[.string (⟨#[]⟩ : ByteArray), .string (⟨#[]⟩ : ByteArray), .int .i64 0] 25 (0, 0))) ∧ (w.heap.size ≤ s_) ∧ (w.heap.size ≤ s_) ∧ (gb106 ≠ s_) ∧ (s_ ≠ gb106) ∧ (Below w.heap.size w w')) ?_ ?_
                  rotate_left
                  · intro hCont
                    refine two_ (i := 9) (j := 11) (Ni := some 26) (Nj := some 5) #[true, true, true, true, true, true, true, true, true, true, false, false, false] #[true, true, true, true, true, true, true, true, true, false, false, true, false] rfl rfl rfl rfl (two_of HT_.out (by kernel_rfl)) (by decide) (by decide) (fun K hK => ?_) (fun K hK => ?_)
                    · skip
                      refine goes_ Tryd.func11 (by kernel_rfl) rfl #[.string (rdOf ByteArray.empty t107 (ji12))] (by rfl) rfl rfl (by (try simp only [List.map_toArray, List.map_cons, List.map_nil]); first | done | (simp only [hji12]; rfl) | rfl | (simp only [List.length_drop, List.length_take]; rfl)) ?_
                      with_reducible refine (spec_Size.calls kj2 (rdOf ByteArray.empty t107 (ji12)) t112 _ A15.out).mono ?_
                      rintro e w' ⟨rfl, ⟨nd, rfl⟩⟩
                      refine ⟨_, rfl, ?_⟩
                      refine hK.out _ _ ⟨hHeld.1, hHeld.2⟩ (fun hHeld => ?_)
                      clear hK K
                      refine norm_ (a' := ?_) ?_ ?_
                      rotate_left
                      · show Act.put _ (some 26) _ = _
                        simp only [Act.put, List.setIfInBounds_toArray, List.set_cons_zero, List.set_cons_succ, i64_w, i32_w]
                        rfl
                      refine pure_ (i := 10) (N := some 27) (v := ?_) (a' := ?_) #[true, true, true, true, true, true, true, true, true, true, true, false, false] rfl rfl (any_of HT_.out (by kernel_rfl)) (fun _ _ _ h => h) (Or.inl ⟨by rfl, ?_⟩) ?_ ?_
                      rotate_left
                      · intro w'
                        go_simp
                        with_reducible rfl
                      rotate_left
                      · simp only [Act.put, List.setIfInBounds_toArray, List.set_cons_zero, List.set_cons_succ, i64_w, i32_w]
                        rfl
                      refine one_ (i := 11) (N := some 5) #[true, true, true, true, true, true, true, true, true, true, true, true, false] rfl rfl (one_of HT_.out (by kernel_rfl)) (by decide) (fun K hK => ?_)
                      refine box_step ?hg (N := 5) ?hd (cs := #[.string (⟨#[]⟩ : ByteArray), .string (⟨#[]⟩ : ByteArray), .int .i64 0]) (t := 25) ?hr ?_; (case hd => rfl); (case hg => rfl); (case hr => first | (go_simp; done) | (go_simp; rfl))
                      intro gb113 hg w20 hbox hb
                      have HS0_ := (hb.cell (World.block_lt_of_cell? _ _ (hHeld.1))).trans (hHeld.1)
                      have HS1_ := (hb.cell (World.block_lt_of_cell? _ _ (hHeld.2))).trans (hHeld.2)
                      have n0_ := Aside0.mk (Kd.R_below (by (with_reducible repeat (first | apply Kd.R_alloc | apply Kd.R_drewN | apply Kd.R_drew)); exact HO_4.out) hb)
                      have n1_ := Aside0.mk (blk_below (g := gb106) (o := .cells #[.string (⟨#[]⟩ : ByteArray), .string (⟨#[]⟩ : ByteArray), .int .i64 0] 25 (0, 0)) (by (with_reducible repeat (first | refine blk_drewN ?_ _ | refine blk_drew ?_ | refine blk_alloc ?_ _)); exact BK106.out) hb)
                      have n2_ := Aside0.mk (below_step (by repeat (first | (with_reducible first | exact HB.out | apply below_alloc | apply pw_below_drewN | apply below_drew1 | refine below_set ?_ GE106.out) | exact HB.out)) hb)
                      have n3_ := Aside0.mk (hbox)
                      have n4_ := Aside0.mk ((by rw [hg]; exact (below_size (by repeat (first | (with_reducible first | exact HB.out | apply below_alloc | apply pw_below_drewN | apply below_drew1 | refine below_set ?_ GE106.out) | exact HB.out))) : w.heap.size ≤ gb113))
                      have n5_ := Aside0.mk ((by rw [hg]; exact (below_size (by repeat (first | (with_reducible first | exact HB.out | apply below_alloc | apply pw_below_drewN | apply below_drew1 | refine below_set ?_ GE106.out) | exact HB.out))) : w.heap.size ≤ gb113))
                      have n6_ := Aside0.mk ((by rw [hg]; exact Nat.ne_of_lt (blk_lt (g := gb106) (o := .cells #[.string (⟨#[]⟩ : ByteArray), .string (⟨#[]⟩ : ByteArray), .int .i64 0] 25 (0, 0)) (by (with_reducible repeat (first | refine blk_drewN ?_ _ | refine blk_drew ?_ | refine blk_alloc ?_ _)); exact BK106.out)) : gb106 ≠ gb113))
                      have n7_ := Aside0.mk ((by rw [hg]; exact Nat.ne_of_gt (blk_lt (g := gb106) (o := .cells #[.string (⟨#[]⟩ : ByteArray), .string (⟨#[]⟩ : ByteArray), .int .i64 0] 25 (0, 0)) (by (with_reducible repeat (first | refine blk_drewN ?_ _ | refine blk_drew ?_ | refine blk_alloc ?_ _)); exact BK106.out)) : gb113 ≠ gb106))
                      clear HO_4
                      clear BK106
                      clear HB
                      have HO_4 := n0_
                      have BK106 := n1_
                      have HB := n2_
                      have BK113 := n3_
                      have GW113 := n4_
                      have GE113 := n5_
                      have NB106_113 := n6_
                      have NB113_106 := n7_
                      clear n0_ n1_ n2_ n3_ n4_ n5_ n6_ n7_
                      clear hb hbox hg
                      refine hK.out _ _ ⟨HS0_, HS1_⟩ (fun hHeld => ?_)
                      clear hK K
                      refine norm_ (a' := ?_) ?_ ?_
                      rotate_left
                      · show Act.put _ (some 5) _ = _
                        simp only [Act.put, List.setIfInBounds_toArray, List.set_cons_zero, List.set_cons_succ, i64_w, i32_w]
                        rfl
                      exact norm_ (by simp only [putAll, Act.put, List.setIfInBounds_toArray, List.set_cons_zero, List.set_cons_succ]) (hCont (gb113) _ ⟨hHeld, (by (with_reducible repeat (first | apply Kd.R_alloc | apply Kd.R_drewN | apply Kd.R_drew)); exact HO_4.out), (by (with_reducible repeat (first | refine blk_drewN ?_ _ | refine blk_drew ?_ | refine blk_alloc ?_ _)); exact BK106.out), (by (with_reducible repeat (first | refine blk_drewN ?_ _ | refine blk_drew ?_ | refine blk_alloc ?_ _)); exact BK113.out), GW113.out, GE113.out, NB106_113.out, NB113_106.out, (by repeat (first | (with_reducible first | exact HB.out | apply below_alloc | apply pw_below_drewN | apply below_drew1 | refine below_set ?_ GE106.out | refine below_set ?_ GE113.out) | exact HB.out))⟩)
                    · skip
                      refine box_step ?hg (N := 5) ?hd (cs := #[.string (⟨#[]⟩ : ByteArray), .string (⟨#[]⟩ : ByteArray), .int .i64 0]) (t := 25) ?hr ?_; (case hd => rfl); (case hg => rfl); (case hr => first | (go_simp; done) | (go_simp; rfl))
                      intro gb113 hg w20 hbox hb
                      have HS0_ := (hb.cell (World.block_lt_of_cell? _ _ (hHeld.1))).trans (hHeld.1)
                      have HS1_ := (hb.cell (World.block_lt_of_cell? _ _ (hHeld.2))).trans (hHeld.2)
                      have n0_ := Aside0.mk (Kd.R_below (by (with_reducible repeat (first | apply Kd.R_alloc | apply Kd.R_drewN | apply Kd.R_drew)); exact HO_4.out) hb)
                      have n1_ := Aside0.mk (blk_below (g := gb106) (o := .cells #[.string (⟨#[]⟩ : ByteArray), .string (⟨#[]⟩ : ByteArray), .int .i64 0] 25 (0, 0)) (by (with_reducible repeat (first | refine blk_drewN ?_ _ | refine blk_drew ?_ | refine blk_alloc ?_ _)); exact BK106.out) hb)
                      have n2_ := Aside0.mk (below_step (by repeat (first | (with_reducible first | exact HB.out | apply below_alloc | apply pw_below_drewN | apply below_drew1 | refine below_set ?_ GE106.out) | exact HB.out)) hb)
                      have n3_ := Aside0.mk (hbox)
                      have n4_ := Aside0.mk ((by rw [hg]; exact (below_size (by repeat (first | (with_reducible first | exact HB.out | apply below_alloc | apply pw_below_drewN | apply below_drew1 | refine below_set ?_ GE106.out) | exact HB.out))) : w.heap.size ≤ gb113))
                      have n5_ := Aside0.mk ((by rw [hg]; exact (below_size (by repeat (first | (with_reducible first | exact HB.out | apply below_alloc | apply pw_below_drewN | apply below_drew1 | refine below_set ?_ GE106.out) | exact HB.out))) : w.heap.size ≤ gb113))
                      have n6_ := Aside0.mk ((by rw [hg]; exact Nat.ne_of_lt (blk_lt (g := gb106) (o := .cells #[.string (⟨#[]⟩ : ByteArray), .string (⟨#[]⟩ : ByteArray), .int .i64 0] 25 (0, 0)) (by (with_reducible repeat (first | refine blk_drewN ?_ _ | refine blk_drew ?_ | refine blk_alloc ?_ _)); exact BK106.out)) : gb106 ≠ gb113))
                      have n7_ := Aside0.mk ((by rw [hg]; exact Nat.ne_of_gt (blk_lt (g := gb106) (o := .cells #[.string (⟨#[]⟩ : ByteArray), .string (⟨#[]⟩ : ByteArray), .int .i64 0] 25 (0, 0)) (by (with_reducible repeat (first | refine blk_drewN ?_ _ | refine blk_drew ?_ | refine blk_alloc ?_ _)); exact BK106.out)) : gb113 ≠ gb106))
                      clear HO_4
                      clear BK106
                      clear HB
                      have HO_4 := n0_
                      have BK106 := n1_
                      have HB := n2_
                      have BK113 := n3_
                      have GW113 := n4_
                      have GE113 := n5_
                      have NB106_113 := n6_
                      have NB113_106 := n7_
                      clear n0_ n1_ n2_ n3_ n4_ n5_ n6_ n7_
                      clear hb hbox hg
                      refine hK.out _ _ ⟨HS0_, HS1_⟩ (fun hHeld => ?_)
                      clear hK K
                      refine norm_ (a' := ?_) ?_ ?_
                      rotate_left
                      · show Act.put _ (some 5) _ = _
                        simp only [Act.put, List.setIfInBounds_toArray, List.set_cons_zero, List.set_cons_succ, i64_w, i32_w]
                        rfl
                      refine one_ (i := 9) (N := some 26) #[true, true, true, true, true, true, true, true, true, true, false, true, false] rfl rfl (one_of HT_.out (by kernel_rfl)) (by decide) (fun K hK => ?_)
                      refine goes_ Tryd.func11 (by kernel_rfl) rfl #[.string (rdOf ByteArray.empty t107 (ji12))] (by rfl) rfl rfl (by (try simp only [List.map_toArray, List.map_cons, List.map_nil]); first | done | (simp only [hji12]; rfl) | rfl | (simp only [List.length_drop, List.length_take]; rfl)) ?_
                      with_reducible refine (spec_Size.calls kj2 (rdOf ByteArray.empty t107 (ji12)) t112 _ A15.out).mono ?_
                      rintro e w' ⟨rfl, ⟨nd, rfl⟩⟩
                      refine ⟨_, rfl, ?_⟩
                      refine hK.out _ _ ⟨hHeld.1, hHeld.2⟩ (fun hHeld => ?_)
                      clear hK K
                      refine norm_ (a' := ?_) ?_ ?_
                      rotate_left
                      · show Act.put _ (some 26) _ = _
                        simp only [Act.put, List.setIfInBounds_toArray, List.set_cons_zero, List.set_cons_succ, i64_w, i32_w]
                        rfl
                      refine pure_ (i := 10) (N := some 27) (v := ?_) (a' := ?_) #[true, true, true, true, true, true, true, true, true, true, true, true, false] rfl rfl (any_of HT_.out (by kernel_rfl)) (fun _ _ _ h => h) (Or.inl ⟨by rfl, ?_⟩) ?_ ?_
                      rotate_left
                      · intro w'
                        go_simp
                        with_reducible rfl
                      rotate_left
                      · simp only [Act.put, List.setIfInBounds_toArray, List.set_cons_zero, List.set_cons_succ, i64_w, i32_w]
                        rfl
                      exact norm_ (by simp only [putAll, Act.put, List.setIfInBounds_toArray, List.set_cons_zero, List.set_cons_succ]) (hCont (gb113) _ ⟨hHeld, (by (with_reducible repeat (first | apply Kd.R_alloc | apply Kd.R_drewN | apply Kd.R_drew)); exact HO_4.out), (by (with_reducible repeat (first | refine blk_drewN ?_ _ | refine blk_drew ?_ | refine blk_alloc ?_ _)); exact BK106.out), (by (with_reducible repeat (first | refine blk_drewN ?_ _ | refine blk_drew ?_ | refine blk_alloc ?_ _)); exact BK113.out), GW113.out, GE113.out, NB106_113.out, NB113_106.out, (by repeat (first | (with_reducible first | exact HB.out | apply below_alloc | apply pw_below_drewN | apply below_drew1 | refine below_set ?_ GE106.out | refine below_set ?_ GE113.out) | exact HB.out))⟩)
                  rintro gb113 w21 ⟨hS_, h0_, h1_, h2_, h3_, h4_, h5_, h6_, h7_⟩
                  have n0_ : Aside0 (Kd.R Kd.string 9 w21 w.heap.size (fun _ => True) (.slice (some ad110) t107.length co19) t107) := ⟨h0_⟩
                  have n1_ : Aside0 (w21.heap[gb106]? = some (.cells #[.string (⟨#[]⟩ : ByteArray), .string (⟨#[]⟩ : ByteArray), .int .i64 0] 25 (0, 0))) := ⟨h1_⟩
                  have n2_ : Aside0 (w21.heap[gb113]? = some (.cells #[.string (⟨#[]⟩ : ByteArray), .string (⟨#[]⟩ : ByteArray), .int .i64 0] 25 (0, 0))) := ⟨h2_⟩
                  have n3_ : Aside0 (w.heap.size ≤ gb113) := ⟨h3_⟩
                  have n4_ : Aside0 (w.heap.size ≤ gb113) := ⟨h4_⟩
                  have n5_ : Aside0 (gb106 ≠ gb113) := ⟨h5_⟩
                  have n6_ : Aside0 (gb113 ≠ gb106) := ⟨h6_⟩
                  have n7_ : Aside0 (Below w.heap.size w w21) := ⟨h7_⟩
                  clear HO_4
                  clear BK106
                  clear HB
                  clear h0_ h1_ h2_ h3_ h4_ h5_ h6_ h7_
                  have HO_4 := n0_
                  have BK106 := n1_
                  have BK113 := n2_
                  have GW113 := n3_
                  have GE113 := n4_
                  have NB106_113 := n5_
                  have NB113_106 := n6_
                  have HB := n7_
                  clear n0_ n1_ n2_ n3_ n4_ n5_ n6_ n7_
                  have hHeld : w21.cell? ad110 = some (.string (rdOf ByteArray.empty t107 0)) ∧ w21.cell? (ad110.add ((ji12)).toNat) = some (.string (rdOf ByteArray.empty t107 (ji12))) := hS_
                  refine norm_ (a' := ?_) ?_ ?_
                  rotate_left
                  · simp only [putAll, Act.put, List.setIfInBounds_toArray, List.set_cons_zero, List.set_cons_succ]
                    rfl
                  refine one_ (i := 12) (N := none) #[true, true, true, true, true, true, true, true, true, true, true, true, true] rfl rfl (one_of HT_.out (by kernel_rfl)) (by decide) (fun K hK => ?_)
                  have hs22 : w21.cell? ⟨gb113, 0, none⟩ = some (.string (⟨#[]⟩ : ByteArray)) := (blk_cell BK113.out 0).trans rfl
                  have hfs22 := blk_frozen BK113.out 0
                  have hns22_0 := NB106_113.out
                  have hms22_0 := NB113_106.out
                  have hs23 : w21.cell? ⟨gb113, 1, none⟩ = some (.string (⟨#[]⟩ : ByteArray)) := (blk_cell BK113.out 1).trans rfl
                  have hfs23 := blk_frozen BK113.out 1
                  have hns23_0 := NB106_113.out
                  have hms23_0 := NB113_106.out
                  have hs24 : w21.cell? ⟨gb113, 2, none⟩ = some (.int .i64 0) := (blk_cell BK113.out 2).trans rfl
                  have hfs24 := blk_frozen BK113.out 2
                  have hns24_0 := NB106_113.out
                  have hms24_0 := NB113_106.out
                  refine skip_ (w1 := ?_) (by rfl) rfl ?_ ?_
                  rotate_left
                  · go_simp
                    rfl
                  refine hK.out _ _ ⟨((cell_far (p := ⟨gb113, _, none⟩) (by first | exact Kd.own_blk (Kd.R_ne HO_4.out BK113.out (by decide)) | (rw [add_block]; exact Kd.own_blk (Kd.R_ne HO_4.out BK113.out (by decide))) | (show (Addr.add _ _).block ≠ _; rw [add_block]; exact Kd.own_blk (Kd.R_ne HO_4.out BK113.out (by decide))) | (dsimp only; exact Kd.own_blk (Kd.R_ne HO_4.out BK113.out (by decide)))) _).trans (((cell_far (p := ⟨gb113, _, none⟩) (by first | exact Kd.own_blk (Kd.R_ne HO_4.out BK113.out (by decide)) | (rw [add_block]; exact Kd.own_blk (Kd.R_ne HO_4.out BK113.out (by decide))) | (show (Addr.add _ _).block ≠ _; rw [add_block]; exact Kd.own_blk (Kd.R_ne HO_4.out BK113.out (by decide))) | (dsimp only; exact Kd.own_blk (Kd.R_ne HO_4.out BK113.out (by decide)))) _).trans (((cell_far (p := ⟨gb113, _, none⟩) (by first | exact Kd.own_blk (Kd.R_ne HO_4.out BK113.out (by decide)) | (rw [add_block]; exact Kd.own_blk (Kd.R_ne HO_4.out BK113.out (by decide))) | (show (Addr.add _ _).block ≠ _; rw [add_block]; exact Kd.own_blk (Kd.R_ne HO_4.out BK113.out (by decide))) | (dsimp only; exact Kd.own_blk (Kd.R_ne HO_4.out BK113.out (by decide)))) _).trans (hHeld.1)))))), ((cell_far (p := ⟨gb113, _, none⟩) (by first | exact Kd.own_blk (Kd.R_ne HO_4.out BK113.out (by decide)) | (rw [add_block]; exact Kd.own_blk (Kd.R_ne HO_4.out BK113.out (by decide))) | (show (Addr.add _ _).block ≠ _; rw [add_block]; exact Kd.own_blk (Kd.R_ne HO_4.out BK113.out (by decide))) | (dsimp only; exact Kd.own_blk (Kd.R_ne HO_4.out BK113.out (by decide)))) _).trans (((cell_far (p := ⟨gb113, _, none⟩) (by first | exact Kd.own_blk (Kd.R_ne HO_4.out BK113.out (by decide)) | (rw [add_block]; exact Kd.own_blk (Kd.R_ne HO_4.out BK113.out (by decide))) | (show (Addr.add _ _).block ≠ _; rw [add_block]; exact Kd.own_blk (Kd.R_ne HO_4.out BK113.out (by decide))) | (dsimp only; exact Kd.own_blk (Kd.R_ne HO_4.out BK113.out (by decide)))) _).trans (((cell_far (p := ⟨gb113, _, none⟩) (by first | exact Kd.own_blk (Kd.R_ne HO_4.out BK113.out (by decide)) | (rw [add_block]; exact Kd.own_blk (Kd.R_ne HO_4.out BK113.out (by decide))) | (show (Addr.add _ _).block ≠ _; rw [add_block]; exact Kd.own_blk (Kd.R_ne HO_4.out BK113.out (by decide))) | (dsimp only; exact Kd.own_blk (Kd.R_ne HO_4.out BK113.out (by decide)))) _).trans (hHeld.2))))))⟩ (fun hHeld => ?_)
                  clear hK K
                  refine done_ (done_of HT_.out (by kernel_rfl)) ?_
                  have p114 : 0 ≤ (1 : Int) := (by omega)
                  have q114 : 1 < (t107.length : Int) := of_decide_eq_true (by first | (with_reducible assumption) | assumption)
                  obtain ⟨ad114, e114, hx114_0⟩ := Kd.at_string (Kd.R_reads' HO_4.out).2.2 1 p114 q114
                  obtain rfl : ad110 = ad114 := (by injection e114)
                  (try simp only [show (1 : Int).toNat = 1 from rfl, Nat.reduceMul, Nat.reduceEqDiff, Go.Addr.add, ↓reduceIte] at hx114_0)
                  have qi114 : (1 < t107.length) = True := eq_true (by omega)
                  (try rw [show ((1 : Int)).toNat = 1 from rfl] at hx114_0)
                  have hn114_0 : ad110.block ≠ gb113 := Kd.own_blk (Kd.R_ne HO_4.out BK113.out (by decide))
                  have hn114_1 : ad110.block ≠ gb113 := Kd.own_blk (Kd.R_ne HO_4.out BK113.out (by decide))
                  have hn114_2 : ad110.block ≠ gb113 := Kd.own_blk (Kd.R_ne HO_4.out BK113.out (by decide))
                  replace hx114_0 := (cell_far (p := ⟨gb113, 0, none⟩) (by first | (rw [add_block]; exact hn114_0) | (show (Addr.add _ _).block ≠ _; rw [add_block]; exact hn114_0) | exact hn114_0) (.string (rdOf ByteArray.empty t107 0))).trans hx114_0
                  replace hx114_0 := (cell_far (p := ⟨gb113, 1, none⟩) (by first | (rw [add_block]; exact hn114_1) | (show (Addr.add _ _).block ≠ _; rw [add_block]; exact hn114_1) | exact hn114_1) (.string (⟨#[]⟩ : ByteArray))).trans hx114_0
                  replace hx114_0 := (cell_far (p := ⟨gb113, 2, none⟩) (by first | (rw [add_block]; exact hn114_2) | (show (Addr.add _ _).block ≠ _; rw [add_block]; exact hn114_2) | exact hn114_2) (.int .i64 t112)).trans hx114_0
                  clear hn114_0
                  clear hn114_1
                  clear hn114_2
                  replace p114 := eq_true p114
                  replace q114 := eq_true q114
                  have hnb25 := NB113_106.out
                  have hnc25 := NB106_113.out
                  have hcz26_0 : w21.cell? ⟨gb113, 0, none⟩ = some (.string (⟨#[]⟩ : ByteArray)) := (blk_cell BK113.out 0).trans rfl
                  have hcz26_1 : w21.cell? ⟨gb113, 1, none⟩ = some (.string (⟨#[]⟩ : ByteArray)) := (blk_cell BK113.out 1).trans rfl
                  have hcz26_2 : w21.cell? ⟨gb113, 2, none⟩ = some (.int .i64 0) := (blk_cell BK113.out 2).trans rfl
                  have hfz26_0 := blk_frozen BK113.out 0
                  have hfz26_1 := blk_frozen BK113.out 1
                  have hfz26_2 := blk_frozen BK113.out 2
                  try go_wp2
                  have n0_ : Aside0 (Kd.R Kd.string 9 ((((w21.setCell ⟨gb113, 0, none⟩ (.string (rdOf ByteArray.empty t107 0))).setCell ⟨gb113, 1, none⟩ (.string (⟨#[]⟩ : ByteArray))).setCell ⟨gb113, 2, none⟩ (.int .i64 t112)).setCell ⟨gb113, 1, none⟩ (.string (rdOf ByteArray.empty t107 1))) w.heap.size (fun _ => True) (.slice (some ad110) t107.length co19) t107) := ⟨by (with_reducible repeat (first | apply Kd.R_alloc | apply Kd.R_drewN | apply Kd.R_drew)); exact Kd.R_mono (Kd.R_far (p := ⟨gb113, 1, none⟩) (Kd.R_far (p := ⟨gb113, 2, none⟩) (Kd.R_far (p := ⟨gb113, 1, none⟩) (Kd.R_far (p := ⟨gb113, 0, none⟩) (Kd.R_types HO_4.out BK113.out (by decide)) (fun _ hk => hk.2) (.string (rdOf ByteArray.empty t107 0))) (fun _ hk => hk.2) (.string (⟨#[]⟩ : ByteArray))) (fun _ hk => hk.2) (.int .i64 t112)) (fun _ hk => hk.2) (.string (rdOf ByteArray.empty t107 1))) (fun _ hk => trivial)⟩
                  have n1_ : Aside0 (((((w21.setCell ⟨gb113, 0, none⟩ (.string (rdOf ByteArray.empty t107 0))).setCell ⟨gb113, 1, none⟩ (.string (⟨#[]⟩ : ByteArray))).setCell ⟨gb113, 2, none⟩ (.int .i64 t112)).setCell ⟨gb113, 1, none⟩ (.string (rdOf ByteArray.empty t107 1))).heap[gb106]? = some (.cells #[.string (⟨#[]⟩ : ByteArray), .string (⟨#[]⟩ : ByteArray), .int .i64 0] 25 (0, 0))) := ⟨by (with_reducible repeat (first | refine blk_drewN ?_ _ | refine blk_drew ?_ | refine blk_alloc ?_ _)); refine blk_far ?_ NB106_113.out _; (with_reducible repeat (first | refine blk_drewN ?_ _ | refine blk_drew ?_ | refine blk_alloc ?_ _)); refine blk_far ?_ NB106_113.out _; (with_reducible repeat (first | refine blk_drewN ?_ _ | refine blk_drew ?_ | refine blk_alloc ?_ _)); refine blk_far ?_ NB106_113.out _; (with_reducible repeat (first | refine blk_drewN ?_ _ | refine blk_drew ?_ | refine blk_alloc ?_ _)); refine blk_far ?_ NB106_113.out _; (with_reducible repeat (first | refine blk_drewN ?_ _ | refine blk_drew ?_ | refine blk_alloc ?_ _)); exact BK106.out⟩
                  have n2_ : Aside0 (((((w21.setCell ⟨gb113, 0, none⟩ (.string (rdOf ByteArray.empty t107 0))).setCell ⟨gb113, 1, none⟩ (.string (⟨#[]⟩ : ByteArray))).setCell ⟨gb113, 2, none⟩ (.int .i64 t112)).setCell ⟨gb113, 1, none⟩ (.string (rdOf ByteArray.empty t107 1))).heap[gb113]? = some (.cells #[.string (rdOf ByteArray.empty t107 0), .string (rdOf ByteArray.empty t107 1), .int .i64 t112] 25 (0, 0))) := ⟨by (with_reducible repeat (first | refine blk_drewN ?_ _ | refine blk_drew ?_ | refine blk_alloc ?_ _)); refine blk_put (cs := #[.string (rdOf ByteArray.empty t107 0), .string (⟨#[]⟩ : ByteArray), .int .i64 t112]) ?_ 1 _ rfl; (with_reducible repeat (first | refine blk_drewN ?_ _ | refine blk_drew ?_ | refine blk_alloc ?_ _)); refine blk_put (cs := #[.string (rdOf ByteArray.empty t107 0), .string (⟨#[]⟩ : ByteArray), .int .i64 0]) ?_ 2 _ rfl; (with_reducible repeat (first | refine blk_drewN ?_ _ | refine blk_drew ?_ | refine blk_alloc ?_ _)); refine blk_put (cs := #[.string (rdOf ByteArray.empty t107 0), .string (⟨#[]⟩ : ByteArray), .int .i64 0]) ?_ 1 _ rfl; (with_reducible repeat (first | refine blk_drewN ?_ _ | refine blk_drew ?_ | refine blk_alloc ?_ _)); refine blk_put (cs := #[.string (⟨#[]⟩ : ByteArray), .string (⟨#[]⟩ : ByteArray), .int .i64 0]) ?_ 0 _ rfl; (with_reducible repeat (first | refine blk_drewN ?_ _ | refine blk_drew ?_ | refine blk_alloc ?_ _)); exact BK113.out⟩
                  have n3_ : Aside0 (Below w.heap.size w ((((w21.setCell ⟨gb113, 0, none⟩ (.string (rdOf ByteArray.empty t107 0))).setCell ⟨gb113, 1, none⟩ (.string (⟨#[]⟩ : ByteArray))).setCell ⟨gb113, 2, none⟩ (.int .i64 t112)).setCell ⟨gb113, 1, none⟩ (.string (rdOf ByteArray.empty t107 1)))) := ⟨by repeat (first | (with_reducible first | exact HB.out | apply below_alloc | apply pw_below_drewN | apply below_drew1 | refine below_set ?_ GE106.out | refine below_set ?_ GE113.out) | exact HB.out)⟩
                  (try clear HO_4)
                  (try clear BK106)
                  (try clear BK113)
                  (try clear HB)
                  generalize ((((w21.setCell ⟨gb113, 0, none⟩ (.string (rdOf ByteArray.empty t107 0))).setCell ⟨gb113, 1, none⟩ (.string (⟨#[]⟩ : ByteArray))).setCell ⟨gb113, 2, none⟩ (.int .i64 t112)).setCell ⟨gb113, 1, none⟩ (.string (rdOf ByteArray.empty t107 1))) = w27 at n0_ n1_ n2_ n3_ ⊢
                  have HO_4 := n0_
                  have BK106 := n1_
                  have BK113 := n2_
                  have HB := n3_
                  clear n0_ n1_ n2_ n3_
                  have n0_ := Aside0.mk (Kd.R_drew HO_4.out)
                  have n1_ := Aside0.mk (blk_drew BK106.out)
                  have n2_ := Aside0.mk (blk_drew BK113.out)
                  have n3_ := Aside0.mk (below_drew1 HB.out)
                  clear HO_4
                  clear BK106
                  clear BK113
                  clear HB
                  have HO_4 := n0_
                  have BK106 := n1_
                  have BK113 := n2_
                  have HB := n3_
                  clear n0_ n1_ n2_ n3_
                  refine start_ (n := 6) (S := fun w' => w'.cell? ⟨gb113, 0, none⟩ = some (.string (rdOf ByteArray.empty t107 0)) ∧ w'.cell? ⟨gb113, 1, none⟩ = some (.string (rdOf ByteArray.empty t107 1)) ∧ w'.cell? ⟨gb113, 2, none⟩ = some (.int .i64 t112)) (ds := []) #[false, false, false, false, false, false] (by kernel_rfl) rfl rfl ⟨(blk_cell BK113.out 0).trans rfl, (blk_cell BK113.out 1).trans rfl, (blk_cell BK113.out 2).trans rfl⟩ (fun hHeld => ?_)
                  generalize w27.drew = w28 at HO_4 BK106 BK113 HB hHeld ⊢
                  refine pure_ (i := 1) (N := some 36) (v := ?_) (a' := ?_) #[false, true, false, false, false, false] rfl rfl (by kernel_rfl) (fun _ _ _ h => h) (Or.inl ⟨by rfl, ?_⟩) ?_ ?_
                  rotate_left
                  · intro w'
                    go_simp
                    with_reducible rfl
                  rotate_left
                  · simp only [Act.put, List.setIfInBounds_toArray, List.set_cons_zero, List.set_cons_succ, i64_w, i32_w]
                    rfl
                  refine take_ (i := 0) (N := some 35) (v := ?_) (a' := ?_) #[true, true, false, false, false, false] rfl rfl (by kernel_rfl) (fun _ _ _ h => h) (Or.inl ⟨by rfl, ?_⟩) hHeld ?_ ?_
                  rotate_left
                  · rintro w' ⟨s0, s1, s2⟩
                    go_simp
                    with_reducible rfl
                  rotate_left
                  · simp only [Act.put, List.setIfInBounds_toArray, List.set_cons_zero, List.set_cons_succ, i64_w, i32_w]
                    rfl
                  refine take_ (i := 2) (N := some 37) (v := ?_) (a' := ?_) #[true, true, true, false, false, false] rfl rfl (by kernel_rfl) (fun _ _ _ h => h) (Or.inl ⟨by rfl, ?_⟩) hHeld ?_ ?_
                  rotate_left
                  · rintro w' ⟨s0, s1, s2⟩
                    go_simp
                    with_reducible rfl
                  rotate_left
                  · simp only [Act.put, List.setIfInBounds_toArray, List.set_cons_zero, List.set_cons_succ, i64_w, i32_w]
                    rfl
                  refine pure_ (i := 3) (N := some 38) (v := ?_) (a' := ?_) #[true, true, true, true, false, false] rfl rfl (by kernel_rfl) (fun _ _ _ h => h) (Or.inl ⟨by rfl, ?_⟩) ?_ ?_
                  rotate_left
                  · intro w'
                    go_simp
                    with_reducible rfl
                  rotate_left
                  · simp only [Act.put, List.setIfInBounds_toArray, List.set_cons_zero, List.set_cons_succ, i64_w, i32_w]
                    rfl
                  refine one_ (i := 4) (N := none) #[true, true, true, true, true, false] rfl rfl (by kernel_rfl) (by decide) (fun K hK => ?_)
                  have hs29 : w28.cell? ⟨gb106, 0, none⟩ = some (.string (⟨#[]⟩ : ByteArray)) := (blk_cell BK106.out 0).trans rfl
                  have hfs29 := blk_frozen BK106.out 0
                  have hns29_1 := NB113_106.out
                  have hms29_1 := NB106_113.out
                  have hs30 : w28.cell? ⟨gb106, 1, none⟩ = some (.string (⟨#[]⟩ : ByteArray)) := (blk_cell BK106.out 1).trans rfl
                  have hfs30 := blk_frozen BK106.out 1
                  have hns30_1 := NB113_106.out
                  have hms30_1 := NB106_113.out
                  have hs31 : w28.cell? ⟨gb106, 2, none⟩ = some (.int .i64 0) := (blk_cell BK106.out 2).trans rfl
                  have hfs31 := blk_frozen BK106.out 2
                  have hns31_1 := NB113_106.out
                  have hms31_1 := NB106_113.out
                  refine skip_ (w1 := ?_) (by rfl) rfl ?_ ?_
                  rotate_left
                  · go_simp
                    rfl
                  refine hK.out _ _ ⟨((cell_far (p := ⟨gb106, _, none⟩) NB113_106.out _).trans (((cell_far (p := ⟨gb106, _, none⟩) NB113_106.out _).trans (((cell_far (p := ⟨gb106, _, none⟩) NB113_106.out _).trans (hHeld.1)))))), ((cell_far (p := ⟨gb106, _, none⟩) NB113_106.out _).trans (((cell_far (p := ⟨gb106, _, none⟩) NB113_106.out _).trans (((cell_far (p := ⟨gb106, _, none⟩) NB113_106.out _).trans (hHeld.2.1)))))), ((cell_far (p := ⟨gb106, _, none⟩) NB113_106.out _).trans (((cell_far (p := ⟨gb106, _, none⟩) NB113_106.out _).trans (((cell_far (p := ⟨gb106, _, none⟩) NB113_106.out _).trans (hHeld.2.2))))))⟩ (fun hHeld => ?_)
                  clear hK K
                  refine pure_ (i := 5) (N := some 3) (v := ?_) (a' := ?_) #[true, true, true, true, true, true] rfl rfl (by kernel_rfl) (fun _ _ _ h => h) (Or.inl ⟨by rfl, ?_⟩) ?_ ?_
                  rotate_left
                  · intro w'
                    go_simp
                    with_reducible rfl
                  rotate_left
                  · simp only [Act.put, List.setIfInBounds_toArray, List.set_cons_zero, List.set_cons_succ, i64_w, i32_w]
                    rfl
                  refine done_ (by kernel_rfl) ?_
                  try go_wp2
                  refine bodyPost_ret (results_ct rfl _ _ gb106 25 #[.string (rdOf ByteArray.empty t107 0), .string (rdOf ByteArray.empty t107 1), .int .i64 t112] (0, 0) _ rfl (by (with_reducible repeat (first | refine blk_drewN ?_ _ | refine blk_drew ?_ | refine blk_alloc ?_ _)); refine blk_put (cs := #[.string (rdOf ByteArray.empty t107 0), .string (rdOf ByteArray.empty t107 1), .int .i64 0]) ?_ 2 _ rfl; (with_reducible repeat (first | refine blk_drewN ?_ _ | refine blk_drew ?_ | refine blk_alloc ?_ _)); refine blk_put (cs := #[.string (rdOf ByteArray.empty t107 0), .string (⟨#[]⟩ : ByteArray), .int .i64 0]) ?_ 1 _ rfl; (with_reducible repeat (first | refine blk_drewN ?_ _ | refine blk_drew ?_ | refine blk_alloc ?_ _)); refine blk_put (cs := #[.string (⟨#[]⟩ : ByteArray), .string (⟨#[]⟩ : ByteArray), .int .i64 0]) ?_ 0 _ rfl; (with_reducible repeat (first | refine blk_drewN ?_ _ | refine blk_drew ?_ | refine blk_alloc ?_ _)); exact BK106.out) Tryd.underlying25 rfl (by kernel_rfl)) rfl ?_
                  exact ⟨by first | rfl | (simp [errW_none, errW_some] <;> rfl) | (simp only [← hji12]; first | rfl | (simp [errW_none, errW_some] <;> rfl)) | (simp [*, errW_none, errW_some] <;> rfl) | (simp [errW_none, errW_some]; generalize ByteArray.toList _ = l_; cases l_ <;> rfl), by repeat (first | (with_reducible first | exact HB.out | apply below_alloc | apply pw_below_drewN | apply below_drew1 | refine below_set ?_ GE106.out | refine below_set ?_ GE113.out) | exact HB.out)⟩
                · rw [if_neg c17] at H
                  exact absurd H (by simp)
              · rw [if_neg c16] at H
                have c16b0 : ((t107.length : Int) == 3) = false := beq_eq_false_iff_ne.mpr c16
                have c16b1 : ((t107.length : Int) != 3) = true := bne_iff_ne.mpr c16
                simp only [Option.some.injEq, Prod.mk.injEq] at H
                obtain ⟨rfl, rfl, rfl, rfl⟩ := H
                try go_wp2
                have n0_ := Aside0.mk (Kd.R_drew HO_4.out)
                have n1_ := Aside0.mk (blk_drew BK106.out)
                have n2_ := Aside0.mk (below_drew1 HB.out)
                clear HO_4
                clear BK106
                clear HB
                have HO_4 := n0_
                have BK106 := n1_
                have HB := n2_
                clear n0_ n1_ n2_
                obtain ⟨Ao33, co33, eo33⟩ := Kd.R_slice HO_4.out
                (first | subst eo33 | (injection eo33 with f1_ f2_ f3_; have f4_ := f1_.symm; have f5_ := f3_.symm; clear f1_ f2_ f3_; subst f4_; subst f5_))
                have p110 : 0 ≤ (0 : Int) := (by omega)
                have q110 : 0 < (t107.length : Int) := of_decide_eq_true (by first | (with_reducible assumption) | assumption)
                obtain ⟨ad110, e110, hx110_0⟩ := Kd.at_string (Kd.R_reads' HO_4.out).2.2 0 p110 q110
                cases e110
                have qi110 : (0 < t107.length) = True := eq_true (by omega)
                (try rw [show ((0 : Int)).toNat = 0 from rfl] at hx110_0)
                (try rw [Addr.add_zero'] at hx110_0)
                replace p110 := eq_true p110
                replace q110 := eq_true q110
                have p111 : 0 ≤ ((ji12) : Int) := of_decide_eq_true (by first | (with_reducible assumption) | assumption)
                have q111 : (ji12) < (t107.length : Int) := of_decide_eq_true (by first | (with_reducible assumption) | assumption)
                obtain ⟨ad111, e111, hx111_0⟩ := Kd.at_string (Kd.R_reads' HO_4.out).2.2 (ji12) p111 q111
                obtain rfl : ad110 = ad111 := (by injection e111)
                replace p111 := eq_true p111
                replace q111 := eq_true q111
                refine start_ (n := 13) (S := fun w' => w'.cell? ad110 = some (.string (rdOf ByteArray.empty t107 0)) ∧ w'.cell? (ad110.add ((ji12)).toNat) = some (.string (rdOf ByteArray.empty t107 (ji12)))) (ds := []) #[false, false, false, false, false, false, false, false, false, false, false, false, false] (by kernel_rfl) rfl rfl ⟨hx110_0, hx111_0⟩ (fun hHeld => ?_); refine with_tabW spec_ReadPub.tab4 spec_ReadPub.bits4 (fun HT_ HW_ => ?_)
                generalize wc.drew = w32 at HO_4 BK106 HB hx110_0 hx111_0 hHeld ⊢
                refine pure_ (i := 0) (N := some 17) (v := ?_) (a' := ?_) #[true, false, false, false, false, false, false, false, false, false, false, false, false] rfl rfl (any_of HT_.out (by kernel_rfl)) (fun _ _ _ h => h) (Or.inl ⟨by rfl, ?_⟩) ?_ ?_
                rotate_left
                · intro w'
                  go_simp
                  with_reducible rfl
                rotate_left
                · simp only [Act.put, List.setIfInBounds_toArray, List.set_cons_zero, List.set_cons_succ, i64_w, i32_w]
                  rfl
                refine pure_ (i := 1) (N := some 18) (v := ?_) (a' := ?_) #[true, true, false, false, false, false, false, false, false, false, false, false, false] rfl rfl (any_of HT_.out (by kernel_rfl)) (fun _ _ _ h => h) (Or.inl ⟨by rfl, ?_⟩) ?_ ?_
                rotate_left
                · intro w'
                  go_simp
                  with_reducible rfl
                rotate_left
                · simp only [Act.put, List.setIfInBounds_toArray, List.set_cons_zero, List.set_cons_succ, i64_w, i32_w]
                  rfl
                refine pure_ (i := 3) (N := some 20) (v := ?_) (a' := ?_) #[true, true, false, true, false, false, false, false, false, false, false, false, false] rfl rfl (any_of HT_.out (by kernel_rfl)) (fun _ _ _ h => h) (Or.inl ⟨by rfl, ?_⟩) ?_ ?_
                rotate_left
                · intro w'
                  go_simp
                  with_reducible rfl
                rotate_left
                · simp only [Act.put, List.setIfInBounds_toArray, List.set_cons_zero, List.set_cons_succ, i64_w, i32_w]
                  rfl
                refine pure_ (i := 4) (N := some 21) (v := ?_) (a' := ?_) #[true, true, false, true, true, false, false, false, false, false, false, false, false] rfl rfl (any_of HT_.out (by kernel_rfl)) (fun _ _ _ h => h) (Or.inl ⟨by rfl, ?_⟩) ?_ ?_
                rotate_left
                · intro w'
                  go_simp
                  with_reducible rfl
                rotate_left
                · simp only [Act.put, List.setIfInBounds_toArray, List.set_cons_zero, List.set_cons_succ, i64_w, i32_w]
                  rfl
                refine pure_ (i := 5) (N := some 22) (v := ?_) (a' := ?_) #[true, true, false, true, true, true, false, false, false, false, false, false, false] rfl rfl (any_of HT_.out (by kernel_rfl)) (fun _ _ _ h => h) (Or.inl ⟨by rfl, ?_⟩) ?_ ?_
                rotate_left
                · intro w'
                  go_simp
                  with_reducible rfl
                rotate_left
                · simp only [Act.put, List.setIfInBounds_toArray, List.set_cons_zero, List.set_cons_succ, i64_w, i32_w]
                  rfl
                refine pure_ (i := 6) (N := some 23) (v := ?_) (a' := ?_) #[true, true, false, true, true, true, true, false, false, false, false, false, false] rfl rfl (any_of HT_.out (by kernel_rfl)) (fun _ _ _ h => h) (Or.inl ⟨by rfl, ?_⟩) ?_ ?_
                rotate_left
                · intro w'
                  go_simp
                  with_reducible rfl
                rotate_left
                · simp only [Act.put, List.setIfInBounds_toArray, List.set_cons_zero, List.set_cons_succ, i64_w, i32_w]
                  rfl
                refine pure_ (i := 7) (N := some 24) (v := ?_) (a' := ?_) #[true, true, false, true, true, true, true, true, false, false, false, false, false] rfl rfl (any_of HT_.out (by kernel_rfl)) (fun _ _ _ h => h) (Or.inl ⟨by rfl, ?_⟩) ?_ ?_
                rotate_left
                · intro w'
                  go_simp
                  with_reducible rfl
                rotate_left
                · simp only [Act.put, List.setIfInBounds_toArray, List.set_cons_zero, List.set_cons_succ, i64_w, i32_w]
                  rfl
                refine take_ (i := 2) (N := some 19) (v := ?_) (a' := ?_) #[true, true, true, true, true, true, true, true, false, false, false, false, false] rfl rfl (take_ofW HT_.out HW_.out (by kernel_rfl)) (fun _ _ _ h => h) (Or.inl ⟨by rfl, ?_⟩) hHeld ?_ ?_
                rotate_left
                · rintro w' ⟨s0, s1⟩
                  go_simp
                  with_reducible rfl
                rotate_left
                · simp only [Act.put, List.setIfInBounds_toArray, List.set_cons_zero, List.set_cons_succ, i64_w, i32_w]
                  rfl
                refine take_ (i := 8) (N := some 25) (v := ?_) (a' := ?_) #[true, true, true, true, true, true, true, true, true, false, false, false, false] rfl rfl (take_ofW HT_.out HW_.out (by kernel_rfl)) (fun _ _ _ h => h) (Or.inl ⟨by rfl, ?_⟩) hHeld ?_ ?_
                rotate_left
                · rintro w' ⟨s0, s1⟩
                  go_simp
                  with_reducible rfl
                rotate_left
                · simp only [Act.put, List.setIfInBounds_toArray, List.set_cons_zero, List.set_cons_succ, i64_w, i32_w]
                  rfl
                refine join_ (σ := Nat) 1 #[true, true, true, true, true, true, true, true, true, true, true, true, false] (fun s_ => [(26, .int .i64 t112), (5, .pointer (some ⟨s_, 0, none⟩)), (27, .agg #[.string (rdOf ByteArray.empty t107 0), .string (⟨#[]⟩ : ByteArray), .int .i64 t112])]) (fun s_ w' => (w'.cell? ad110 = some (.string (rdOf ByteArray.empty t107 0)) ∧ w'.cell? (ad110.add ((ji12)).toNat) = some (.string (rdOf ByteArray.empty t107 (ji12)))) ∧ (Kd.R Kd.string 9 w' w.heap.size (fun _ => True) (.slice (some ad110) t107.length co33) t107) ∧ (w'.heap[gb106]? = some (.cells #[.string (⟨#[]⟩ : ByteArray), .string (⟨#[]⟩ : ByteArray), .int .i64 0] 25 (0, 0))) ∧ (w'.heap[s_]? = some (.cells #[.string (⟨#[]⟩ : ByteArray), .string (⟨#[]⟩ : ByteArray), .int .i64 0] 25 (0, 0))) ∧ (w.heap.size ≤ s_) ∧ (w.heap.size ≤ s_) ∧ (gb106 ≠ s_) ∧ (s_ ≠ gb106) ∧ (Below w.heap.size w w')) ?_ ?_
                rotate_left
                · intro hCont
                  refine two_ (i := 9) (j := 11) (Ni := some 26) (Nj := some 5) #[true, true, true, true, true, true, true, true, true, true, false, false, false] #[true, true, true, true, true, true, true, true, true, false, false, true, false] rfl rfl rfl rfl (two_of HT_.out (by kernel_rfl)) (by decide) (by decide) (fun K hK => ?_) (fun K hK => ?_)
                  · skip
                    refine goes_ Tryd.func11 (by kernel_rfl) rfl #[.string (rdOf ByteArray.empty t107 (ji12))] (by rfl) rfl rfl (by (try simp only [List.map_toArray, List.map_cons, List.map_nil]); first | done | (simp only [hji12]; rfl) | rfl | (simp only [List.length_drop, List.length_take]; rfl)) ?_
                    with_reducible refine (spec_Size.calls kj2 (rdOf ByteArray.empty t107 (ji12)) t112 _ A15.out).mono ?_
                    rintro e w' ⟨rfl, ⟨nd, rfl⟩⟩
                    refine ⟨_, rfl, ?_⟩
                    refine hK.out _ _ ⟨hHeld.1, hHeld.2⟩ (fun hHeld => ?_)
                    clear hK K
                    refine norm_ (a' := ?_) ?_ ?_
                    rotate_left
                    · show Act.put _ (some 26) _ = _
                      simp only [Act.put, List.setIfInBounds_toArray, List.set_cons_zero, List.set_cons_succ, i64_w, i32_w]
                      rfl
                    refine pure_ (i := 10) (N := some 27) (v := ?_) (a' := ?_) #[true, true, true, true, true, true, true, true, true, true, true, false, false] rfl rfl (any_of HT_.out (by kernel_rfl)) (fun _ _ _ h => h) (Or.inl ⟨by rfl, ?_⟩) ?_ ?_
                    rotate_left
                    · intro w'
                      go_simp
                      with_reducible rfl
                    rotate_left
                    · simp only [Act.put, List.setIfInBounds_toArray, List.set_cons_zero, List.set_cons_succ, i64_w, i32_w]
                      rfl
                    refine one_ (i := 11) (N := some 5) #[true, true, true, true, true, true, true, true, true, true, true, true, false] rfl rfl (one_of HT_.out (by kernel_rfl)) (by decide) (fun K hK => ?_)
                    refine box_step ?hg (N := 5) ?hd (cs := #[.string (⟨#[]⟩ : ByteArray), .string (⟨#[]⟩ : ByteArray), .int .i64 0]) (t := 25) ?hr ?_; (case hd => rfl); (case hg => rfl); (case hr => first | (go_simp; done) | (go_simp; rfl))
                    intro gb113 hg w34 hbox hb
                    have HS0_ := (hb.cell (World.block_lt_of_cell? _ _ (hHeld.1))).trans (hHeld.1)
                    have HS1_ := (hb.cell (World.block_lt_of_cell? _ _ (hHeld.2))).trans (hHeld.2)
                    have n0_ := Aside0.mk (Kd.R_below (by (with_reducible repeat (first | apply Kd.R_alloc | apply Kd.R_drewN | apply Kd.R_drew)); exact HO_4.out) hb)
                    have n1_ := Aside0.mk (blk_below (g := gb106) (o := .cells #[.string (⟨#[]⟩ : ByteArray), .string (⟨#[]⟩ : ByteArray), .int .i64 0] 25 (0, 0)) (by (with_reducible repeat (first | refine blk_drewN ?_ _ | refine blk_drew ?_ | refine blk_alloc ?_ _)); exact BK106.out) hb)
                    have n2_ := Aside0.mk (below_step (by repeat (first | (with_reducible first | exact HB.out | apply below_alloc | apply pw_below_drewN | apply below_drew1 | refine below_set ?_ GE106.out) | exact HB.out)) hb)
                    have n3_ := Aside0.mk (hbox)
                    have n4_ := Aside0.mk ((by rw [hg]; exact (below_size (by repeat (first | (with_reducible first | exact HB.out | apply below_alloc | apply pw_below_drewN | apply below_drew1 | refine below_set ?_ GE106.out) | exact HB.out))) : w.heap.size ≤ gb113))
                    have n5_ := Aside0.mk ((by rw [hg]; exact (below_size (by repeat (first | (with_reducible first | exact HB.out | apply below_alloc | apply pw_below_drewN | apply below_drew1 | refine below_set ?_ GE106.out) | exact HB.out))) : w.heap.size ≤ gb113))
                    have n6_ := Aside0.mk ((by rw [hg]; exact Nat.ne_of_lt (blk_lt (g := gb106) (o := .cells #[.string (⟨#[]⟩ : ByteArray), .string (⟨#[]⟩ : ByteArray), .int .i64 0] 25 (0, 0)) (by (with_reducible repeat (first | refine blk_drewN ?_ _ | refine blk_drew ?_ | refine blk_alloc ?_ _)); exact BK106.out)) : gb106 ≠ gb113))
                    have n7_ := Aside0.mk ((by rw [hg]; exact Nat.ne_of_gt (blk_lt (g := gb106) (o := .cells #[.string (⟨#[]⟩ : ByteArray), .string (⟨#[]⟩ : ByteArray), .int .i64 0] 25 (0, 0)) (by (with_reducible repeat (first | refine blk_drewN ?_ _ | refine blk_drew ?_ | refine blk_alloc ?_ _)); exact BK106.out)) : gb113 ≠ gb106))
                    clear HO_4
                    clear BK106
                    clear HB
                    have HO_4 := n0_
                    have BK106 := n1_
                    have HB := n2_
                    have BK113 := n3_
                    have GW113 := n4_
                    have GE113 := n5_
                    have NB106_113 := n6_
                    have NB113_106 := n7_
                    clear n0_ n1_ n2_ n3_ n4_ n5_ n6_ n7_
                    clear hb hbox hg
                    refine hK.out _ _ ⟨HS0_, HS1_⟩ (fun hHeld => ?_)
                    clear hK K
                    refine norm_ (a' := ?_) ?_ ?_
                    rotate_left
                    · show Act.put _ (some 5) _ = _
                      simp only [Act.put, List.setIfInBounds_toArray, List.set_cons_zero, List.set_cons_succ, i64_w, i32_w]
                      rfl
                    exact norm_ (by simp only [putAll, Act.put, List.setIfInBounds_toArray, List.set_cons_zero, List.set_cons_succ]) (hCont (gb113) _ ⟨hHeld, (by (with_reducible repeat (first | apply Kd.R_alloc | apply Kd.R_drewN | apply Kd.R_drew)); exact HO_4.out), (by (with_reducible repeat (first | refine blk_drewN ?_ _ | refine blk_drew ?_ | refine blk_alloc ?_ _)); exact BK106.out), (by (with_reducible repeat (first | refine blk_drewN ?_ _ | refine blk_drew ?_ | refine blk_alloc ?_ _)); exact BK113.out), GW113.out, GE113.out, NB106_113.out, NB113_106.out, (by repeat (first | (with_reducible first | exact HB.out | apply below_alloc | apply pw_below_drewN | apply below_drew1 | refine below_set ?_ GE106.out | refine below_set ?_ GE113.out) | exact HB.out))⟩)
                  · skip
                    refine box_step ?hg (N := 5) ?hd (cs := #[.string (⟨#[]⟩ : ByteArray), .string (⟨#[]⟩ : ByteArray), .int .i64 0]) (t := 25) ?hr ?_; (case hd => rfl); (case hg => rfl); (case hr => first | (go_simp; done) | (go_simp; rfl))
                    intro gb113 hg w34 hbox hb
                    have HS0_ := (hb.cell (World.block_lt_of_cell? _ _ (hHeld.1))).trans (hHeld.1)
                    have HS1_ := (hb.cell (World.block_lt_of_cell? _ _ (hHeld.2))).trans (hHeld.2)
                    have n0_ := Aside0.mk (Kd.R_below (by (with_reducible repeat (first | apply Kd.R_alloc | apply Kd.R_drewN | apply Kd.R_drew)); exact HO_4.out) hb)
                    have n1_ := Aside0.mk (blk_below (g := gb106) (o := .cells #[.string (⟨#[]⟩ : ByteArray), .string (⟨#[]⟩ : ByteArray), .int .i64 0] 25 (0, 0)) (by (with_reducible repeat (first | refine blk_drewN ?_ _ | refine blk_drew ?_ | refine blk_alloc ?_ _)); exact BK106.out) hb)
                    have n2_ := Aside0.mk (below_step (by repeat (first | (with_reducible first | exact HB.out | apply below_alloc | apply pw_below_drewN | apply below_drew1 | refine below_set ?_ GE106.out) | exact HB.out)) hb)
                    have n3_ := Aside0.mk (hbox)
                    have n4_ := Aside0.mk ((by rw [hg]; exact (below_size (by repeat (first | (with_reducible first | exact HB.out | apply below_alloc | apply pw_below_drewN | apply below_drew1 | refine below_set ?_ GE106.out) | exact HB.out))) : w.heap.size ≤ gb113))
                    have n5_ := Aside0.mk ((by rw [hg]; exact (below_size (by repeat (first | (with_reducible first | exact HB.out | apply below_alloc | apply pw_below_drewN | apply below_drew1 | refine below_set ?_ GE106.out) | exact HB.out))) : w.heap.size ≤ gb113))
                    have n6_ := Aside0.mk ((by rw [hg]; exact Nat.ne_of_lt (blk_lt (g := gb106) (o := .cells #[.string (⟨#[]⟩ : ByteArray), .string (⟨#[]⟩ : ByteArray), .int .i64 0] 25 (0, 0)) (by (with_reducible repeat (first | refine blk_drewN ?_ _ | refine blk_drew ?_ | refine blk_alloc ?_ _)); exact BK106.out)) : gb106 ≠ gb113))
                    have n7_ := Aside0.mk ((by rw [hg]; exact Nat.ne_of_gt (blk_lt (g := gb106) (o := .cells #[.string (⟨#[]⟩ : ByteArray), .string (⟨#[]⟩ : ByteArray), .int .i64 0] 25 (0, 0)) (by (with_reducible repeat (first | refine blk_drewN ?_ _ | refine blk_drew ?_ | refine blk_alloc ?_ _)); exact BK106.out)) : gb113 ≠ gb106))
                    clear HO_4
                    clear BK106
                    clear HB
                    have HO_4 := n0_
                    have BK106 := n1_
                    have HB := n2_
                    have BK113 := n3_
                    have GW113 := n4_
                    have GE113 := n5_
                    have NB106_113 := n6_
                    have NB113_106 := n7_
                    clear n0_ n1_ n2_ n3_ n4_ n5_ n6_ n7_
                    clear hb hbox hg
                    refine hK.out _ _ ⟨HS0_, HS1_⟩ (fun hHeld => ?_)
                    clear hK K
                    refine norm_ (a' := ?_) ?_ ?_
                    rotate_left
                    · show Act.put _ (some 5) _ = _
                      simp only [Act.put, List.setIfInBounds_toArray, List.set_cons_zero, List.set_cons_succ, i64_w, i32_w]
                      rfl
                    refine one_ (i := 9) (N := some 26) #[true, true, true, true, true, true, true, true, true, true, false, true, false] rfl rfl (one_of HT_.out (by kernel_rfl)) (by decide) (fun K hK => ?_)
                    refine goes_ Tryd.func11 (by kernel_rfl) rfl #[.string (rdOf ByteArray.empty t107 (ji12))] (by rfl) rfl rfl (by (try simp only [List.map_toArray, List.map_cons, List.map_nil]); first | done | (simp only [hji12]; rfl) | rfl | (simp only [List.length_drop, List.length_take]; rfl)) ?_
                    with_reducible refine (spec_Size.calls kj2 (rdOf ByteArray.empty t107 (ji12)) t112 _ A15.out).mono ?_
                    rintro e w' ⟨rfl, ⟨nd, rfl⟩⟩
                    refine ⟨_, rfl, ?_⟩
                    refine hK.out _ _ ⟨hHeld.1, hHeld.2⟩ (fun hHeld => ?_)
                    clear hK K
                    refine norm_ (a' := ?_) ?_ ?_
                    rotate_left
                    · show Act.put _ (some 26) _ = _
                      simp only [Act.put, List.setIfInBounds_toArray, List.set_cons_zero, List.set_cons_succ, i64_w, i32_w]
                      rfl
                    refine pure_ (i := 10) (N := some 27) (v := ?_) (a' := ?_) #[true, true, true, true, true, true, true, true, true, true, true, true, false] rfl rfl (any_of HT_.out (by kernel_rfl)) (fun _ _ _ h => h) (Or.inl ⟨by rfl, ?_⟩) ?_ ?_
                    rotate_left
                    · intro w'
                      go_simp
                      with_reducible rfl
                    rotate_left
                    · simp only [Act.put, List.setIfInBounds_toArray, List.set_cons_zero, List.set_cons_succ, i64_w, i32_w]
                      rfl
                    exact norm_ (by simp only [putAll, Act.put, List.setIfInBounds_toArray, List.set_cons_zero, List.set_cons_succ]) (hCont (gb113) _ ⟨hHeld, (by (with_reducible repeat (first | apply Kd.R_alloc | apply Kd.R_drewN | apply Kd.R_drew)); exact HO_4.out), (by (with_reducible repeat (first | refine blk_drewN ?_ _ | refine blk_drew ?_ | refine blk_alloc ?_ _)); exact BK106.out), (by (with_reducible repeat (first | refine blk_drewN ?_ _ | refine blk_drew ?_ | refine blk_alloc ?_ _)); exact BK113.out), GW113.out, GE113.out, NB106_113.out, NB113_106.out, (by repeat (first | (with_reducible first | exact HB.out | apply below_alloc | apply pw_below_drewN | apply below_drew1 | refine below_set ?_ GE106.out | refine below_set ?_ GE113.out) | exact HB.out))⟩)
                rintro gb113 w35 ⟨hS_, h0_, h1_, h2_, h3_, h4_, h5_, h6_, h7_⟩
                have n0_ : Aside0 (Kd.R Kd.string 9 w35 w.heap.size (fun _ => True) (.slice (some ad110) t107.length co33) t107) := ⟨h0_⟩
                have n1_ : Aside0 (w35.heap[gb106]? = some (.cells #[.string (⟨#[]⟩ : ByteArray), .string (⟨#[]⟩ : ByteArray), .int .i64 0] 25 (0, 0))) := ⟨h1_⟩
                have n2_ : Aside0 (w35.heap[gb113]? = some (.cells #[.string (⟨#[]⟩ : ByteArray), .string (⟨#[]⟩ : ByteArray), .int .i64 0] 25 (0, 0))) := ⟨h2_⟩
                have n3_ : Aside0 (w.heap.size ≤ gb113) := ⟨h3_⟩
                have n4_ : Aside0 (w.heap.size ≤ gb113) := ⟨h4_⟩
                have n5_ : Aside0 (gb106 ≠ gb113) := ⟨h5_⟩
                have n6_ : Aside0 (gb113 ≠ gb106) := ⟨h6_⟩
                have n7_ : Aside0 (Below w.heap.size w w35) := ⟨h7_⟩
                clear HO_4
                clear BK106
                clear HB
                clear h0_ h1_ h2_ h3_ h4_ h5_ h6_ h7_
                have HO_4 := n0_
                have BK106 := n1_
                have BK113 := n2_
                have GW113 := n3_
                have GE113 := n4_
                have NB106_113 := n5_
                have NB113_106 := n6_
                have HB := n7_
                clear n0_ n1_ n2_ n3_ n4_ n5_ n6_ n7_
                have hHeld : w35.cell? ad110 = some (.string (rdOf ByteArray.empty t107 0)) ∧ w35.cell? (ad110.add ((ji12)).toNat) = some (.string (rdOf ByteArray.empty t107 (ji12))) := hS_
                refine norm_ (a' := ?_) ?_ ?_
                rotate_left
                · simp only [putAll, Act.put, List.setIfInBounds_toArray, List.set_cons_zero, List.set_cons_succ]
                  rfl
                refine one_ (i := 12) (N := none) #[true, true, true, true, true, true, true, true, true, true, true, true, true] rfl rfl (one_of HT_.out (by kernel_rfl)) (by decide) (fun K hK => ?_)
                have hs36 : w35.cell? ⟨gb113, 0, none⟩ = some (.string (⟨#[]⟩ : ByteArray)) := (blk_cell BK113.out 0).trans rfl
                have hfs36 := blk_frozen BK113.out 0
                have hns36_0 := NB106_113.out
                have hms36_0 := NB113_106.out
                have hs37 : w35.cell? ⟨gb113, 1, none⟩ = some (.string (⟨#[]⟩ : ByteArray)) := (blk_cell BK113.out 1).trans rfl
                have hfs37 := blk_frozen BK113.out 1
                have hns37_0 := NB106_113.out
                have hms37_0 := NB113_106.out
                have hs38 : w35.cell? ⟨gb113, 2, none⟩ = some (.int .i64 0) := (blk_cell BK113.out 2).trans rfl
                have hfs38 := blk_frozen BK113.out 2
                have hns38_0 := NB106_113.out
                have hms38_0 := NB113_106.out
                refine skip_ (w1 := ?_) (by rfl) rfl ?_ ?_
                rotate_left
                · go_simp
                  rfl
                refine hK.out _ _ ⟨((cell_far (p := ⟨gb113, _, none⟩) (by first | exact Kd.own_blk (Kd.R_ne HO_4.out BK113.out (by decide)) | (rw [add_block]; exact Kd.own_blk (Kd.R_ne HO_4.out BK113.out (by decide))) | (show (Addr.add _ _).block ≠ _; rw [add_block]; exact Kd.own_blk (Kd.R_ne HO_4.out BK113.out (by decide))) | (dsimp only; exact Kd.own_blk (Kd.R_ne HO_4.out BK113.out (by decide)))) _).trans (((cell_far (p := ⟨gb113, _, none⟩) (by first | exact Kd.own_blk (Kd.R_ne HO_4.out BK113.out (by decide)) | (rw [add_block]; exact Kd.own_blk (Kd.R_ne HO_4.out BK113.out (by decide))) | (show (Addr.add _ _).block ≠ _; rw [add_block]; exact Kd.own_blk (Kd.R_ne HO_4.out BK113.out (by decide))) | (dsimp only; exact Kd.own_blk (Kd.R_ne HO_4.out BK113.out (by decide)))) _).trans (((cell_far (p := ⟨gb113, _, none⟩) (by first | exact Kd.own_blk (Kd.R_ne HO_4.out BK113.out (by decide)) | (rw [add_block]; exact Kd.own_blk (Kd.R_ne HO_4.out BK113.out (by decide))) | (show (Addr.add _ _).block ≠ _; rw [add_block]; exact Kd.own_blk (Kd.R_ne HO_4.out BK113.out (by decide))) | (dsimp only; exact Kd.own_blk (Kd.R_ne HO_4.out BK113.out (by decide)))) _).trans (hHeld.1)))))), ((cell_far (p := ⟨gb113, _, none⟩) (by first | exact Kd.own_blk (Kd.R_ne HO_4.out BK113.out (by decide)) | (rw [add_block]; exact Kd.own_blk (Kd.R_ne HO_4.out BK113.out (by decide))) | (show (Addr.add _ _).block ≠ _; rw [add_block]; exact Kd.own_blk (Kd.R_ne HO_4.out BK113.out (by decide))) | (dsimp only; exact Kd.own_blk (Kd.R_ne HO_4.out BK113.out (by decide)))) _).trans (((cell_far (p := ⟨gb113, _, none⟩) (by first | exact Kd.own_blk (Kd.R_ne HO_4.out BK113.out (by decide)) | (rw [add_block]; exact Kd.own_blk (Kd.R_ne HO_4.out BK113.out (by decide))) | (show (Addr.add _ _).block ≠ _; rw [add_block]; exact Kd.own_blk (Kd.R_ne HO_4.out BK113.out (by decide))) | (dsimp only; exact Kd.own_blk (Kd.R_ne HO_4.out BK113.out (by decide)))) _).trans (((cell_far (p := ⟨gb113, _, none⟩) (by first | exact Kd.own_blk (Kd.R_ne HO_4.out BK113.out (by decide)) | (rw [add_block]; exact Kd.own_blk (Kd.R_ne HO_4.out BK113.out (by decide))) | (show (Addr.add _ _).block ≠ _; rw [add_block]; exact Kd.own_blk (Kd.R_ne HO_4.out BK113.out (by decide))) | (dsimp only; exact Kd.own_blk (Kd.R_ne HO_4.out BK113.out (by decide)))) _).trans (hHeld.2))))))⟩ (fun hHeld => ?_)
                clear hK K
                refine done_ (done_of HT_.out (by kernel_rfl)) ?_
                try go_wp2
                have n0_ : Aside0 (Kd.R Kd.string 9 (((w35.setCell ⟨gb113, 0, none⟩ (.string (rdOf ByteArray.empty t107 0))).setCell ⟨gb113, 1, none⟩ (.string (⟨#[]⟩ : ByteArray))).setCell ⟨gb113, 2, none⟩ (.int .i64 t112)) w.heap.size (fun _ => True) (.slice (some ad110) t107.length co33) t107) := ⟨by (with_reducible repeat (first | apply Kd.R_alloc | apply Kd.R_drewN | apply Kd.R_drew)); exact Kd.R_mono (Kd.R_far (p := ⟨gb113, 2, none⟩) (Kd.R_far (p := ⟨gb113, 1, none⟩) (Kd.R_far (p := ⟨gb113, 0, none⟩) (Kd.R_types HO_4.out BK113.out (by decide)) (fun _ hk => hk.2) (.string (rdOf ByteArray.empty t107 0))) (fun _ hk => hk.2) (.string (⟨#[]⟩ : ByteArray))) (fun _ hk => hk.2) (.int .i64 t112)) (fun _ hk => trivial)⟩
                have n1_ : Aside0 ((((w35.setCell ⟨gb113, 0, none⟩ (.string (rdOf ByteArray.empty t107 0))).setCell ⟨gb113, 1, none⟩ (.string (⟨#[]⟩ : ByteArray))).setCell ⟨gb113, 2, none⟩ (.int .i64 t112)).heap[gb106]? = some (.cells #[.string (⟨#[]⟩ : ByteArray), .string (⟨#[]⟩ : ByteArray), .int .i64 0] 25 (0, 0))) := ⟨by (with_reducible repeat (first | refine blk_drewN ?_ _ | refine blk_drew ?_ | refine blk_alloc ?_ _)); refine blk_far ?_ NB106_113.out _; (with_reducible repeat (first | refine blk_drewN ?_ _ | refine blk_drew ?_ | refine blk_alloc ?_ _)); refine blk_far ?_ NB106_113.out _; (with_reducible repeat (first | refine blk_drewN ?_ _ | refine blk_drew ?_ | refine blk_alloc ?_ _)); refine blk_far ?_ NB106_113.out _; (with_reducible repeat (first | refine blk_drewN ?_ _ | refine blk_drew ?_ | refine blk_alloc ?_ _)); exact BK106.out⟩
                have n2_ : Aside0 ((((w35.setCell ⟨gb113, 0, none⟩ (.string (rdOf ByteArray.empty t107 0))).setCell ⟨gb113, 1, none⟩ (.string (⟨#[]⟩ : ByteArray))).setCell ⟨gb113, 2, none⟩ (.int .i64 t112)).heap[gb113]? = some (.cells #[.string (rdOf ByteArray.empty t107 0), .string (⟨#[]⟩ : ByteArray), .int .i64 t112] 25 (0, 0))) := ⟨by (with_reducible repeat (first | refine blk_drewN ?_ _ | refine blk_drew ?_ | refine blk_alloc ?_ _)); refine blk_put (cs := #[.string (rdOf ByteArray.empty t107 0), .string (⟨#[]⟩ : ByteArray), .int .i64 0]) ?_ 2 _ rfl; (with_reducible repeat (first | refine blk_drewN ?_ _ | refine blk_drew ?_ | refine blk_alloc ?_ _)); refine blk_put (cs := #[.string (rdOf ByteArray.empty t107 0), .string (⟨#[]⟩ : ByteArray), .int .i64 0]) ?_ 1 _ rfl; (with_reducible repeat (first | refine blk_drewN ?_ _ | refine blk_drew ?_ | refine blk_alloc ?_ _)); refine blk_put (cs := #[.string (⟨#[]⟩ : ByteArray), .string (⟨#[]⟩ : ByteArray), .int .i64 0]) ?_ 0 _ rfl; (with_reducible repeat (first | refine blk_drewN ?_ _ | refine blk_drew ?_ | refine blk_alloc ?_ _)); exact BK113.out⟩
                have n3_ : Aside0 (Below w.heap.size w (((w35.setCell ⟨gb113, 0, none⟩ (.string (rdOf ByteArray.empty t107 0))).setCell ⟨gb113, 1, none⟩ (.string (⟨#[]⟩ : ByteArray))).setCell ⟨gb113, 2, none⟩ (.int .i64 t112))) := ⟨by repeat (first | (with_reducible first | exact HB.out | apply below_alloc | apply pw_below_drewN | apply below_drew1 | refine below_set ?_ GE106.out | refine below_set ?_ GE113.out) | exact HB.out)⟩
                (try clear HO_4)
                (try clear BK106)
                (try clear BK113)
                (try clear HB)
                generalize (((w35.setCell ⟨gb113, 0, none⟩ (.string (rdOf ByteArray.empty t107 0))).setCell ⟨gb113, 1, none⟩ (.string (⟨#[]⟩ : ByteArray))).setCell ⟨gb113, 2, none⟩ (.int .i64 t112)) = w39 at n0_ n1_ n2_ n3_ ⊢
                have HO_4 := n0_
                have BK106 := n1_
                have BK113 := n2_
                have HB := n3_
                clear n0_ n1_ n2_ n3_
                have n0_ := Aside0.mk (Kd.R_drew HO_4.out)
                have n1_ := Aside0.mk (blk_drew BK106.out)
                have n2_ := Aside0.mk (blk_drew BK113.out)
                have n3_ := Aside0.mk (below_drew1 HB.out)
                clear HO_4
                clear BK106
                clear BK113
                clear HB
                have HO_4 := n0_
                have BK106 := n1_
                have BK113 := n2_
                have HB := n3_
                clear n0_ n1_ n2_ n3_
                refine start_ (n := 6) (S := fun w' => w'.cell? ⟨gb113, 0, none⟩ = some (.string (rdOf ByteArray.empty t107 0)) ∧ w'.cell? ⟨gb113, 1, none⟩ = some (.string (⟨#[]⟩ : ByteArray)) ∧ w'.cell? ⟨gb113, 2, none⟩ = some (.int .i64 t112)) (ds := []) #[false, false, false, false, false, false] (by kernel_rfl) rfl rfl ⟨(blk_cell BK113.out 0).trans rfl, (blk_cell BK113.out 1).trans rfl, (blk_cell BK113.out 2).trans rfl⟩ (fun hHeld => ?_)
                generalize w39.drew = w40 at HO_4 BK106 BK113 HB hHeld ⊢
                refine pure_ (i := 1) (N := some 36) (v := ?_) (a' := ?_) #[false, true, false, false, false, false] rfl rfl (by kernel_rfl) (fun _ _ _ h => h) (Or.inl ⟨by rfl, ?_⟩) ?_ ?_
                rotate_left
                · intro w'
                  go_simp
                  with_reducible rfl
                rotate_left
                · simp only [Act.put, List.setIfInBounds_toArray, List.set_cons_zero, List.set_cons_succ, i64_w, i32_w]
                  rfl
                refine take_ (i := 0) (N := some 35) (v := ?_) (a' := ?_) #[true, true, false, false, false, false] rfl rfl (by kernel_rfl) (fun _ _ _ h => h) (Or.inl ⟨by rfl, ?_⟩) hHeld ?_ ?_
                rotate_left
                · rintro w' ⟨s0, s1, s2⟩
                  go_simp
                  with_reducible rfl
                rotate_left
                · simp only [Act.put, List.setIfInBounds_toArray, List.set_cons_zero, List.set_cons_succ, i64_w, i32_w]
                  rfl
                refine take_ (i := 2) (N := some 37) (v := ?_) (a' := ?_) #[true, true, true, false, false, false] rfl rfl (by kernel_rfl) (fun _ _ _ h => h) (Or.inl ⟨by rfl, ?_⟩) hHeld ?_ ?_
                rotate_left
                · rintro w' ⟨s0, s1, s2⟩
                  go_simp
                  with_reducible rfl
                rotate_left
                · simp only [Act.put, List.setIfInBounds_toArray, List.set_cons_zero, List.set_cons_succ, i64_w, i32_w]
                  rfl
                refine pure_ (i := 3) (N := some 38) (v := ?_) (a' := ?_) #[true, true, true, true, false, false] rfl rfl (by kernel_rfl) (fun _ _ _ h => h) (Or.inl ⟨by rfl, ?_⟩) ?_ ?_
                rotate_left
                · intro w'
                  go_simp
                  with_reducible rfl
                rotate_left
                · simp only [Act.put, List.setIfInBounds_toArray, List.set_cons_zero, List.set_cons_succ, i64_w, i32_w]
                  rfl
                refine one_ (i := 4) (N := none) #[true, true, true, true, true, false] rfl rfl (by kernel_rfl) (by decide) (fun K hK => ?_)
                have hs41 : w40.cell? ⟨gb106, 0, none⟩ = some (.string (⟨#[]⟩ : ByteArray)) := (blk_cell BK106.out 0).trans rfl
                have hfs41 := blk_frozen BK106.out 0
                have hns41_1 := NB113_106.out
                have hms41_1 := NB106_113.out
                have hs42 : w40.cell? ⟨gb106, 1, none⟩ = some (.string (⟨#[]⟩ : ByteArray)) := (blk_cell BK106.out 1).trans rfl
                have hfs42 := blk_frozen BK106.out 1
                have hns42_1 := NB113_106.out
                have hms42_1 := NB106_113.out
                have hs43 : w40.cell? ⟨gb106, 2, none⟩ = some (.int .i64 0) := (blk_cell BK106.out 2).trans rfl
                have hfs43 := blk_frozen BK106.out 2
                have hns43_1 := NB113_106.out
                have hms43_1 := NB106_113.out
                refine skip_ (w1 := ?_) (by rfl) rfl ?_ ?_
                rotate_left
                · go_simp
                  rfl
                refine hK.out _ _ ⟨((cell_far (p := ⟨gb106, _, none⟩) NB113_106.out _).trans (((cell_far (p := ⟨gb106, _, none⟩) NB113_106.out _).trans (((cell_far (p := ⟨gb106, _, none⟩) NB113_106.out _).trans (hHeld.1)))))), ((cell_far (p := ⟨gb106, _, none⟩) NB113_106.out _).trans (((cell_far (p := ⟨gb106, _, none⟩) NB113_106.out _).trans (((cell_far (p := ⟨gb106, _, none⟩) NB113_106.out _).trans (hHeld.2.1)))))), ((cell_far (p := ⟨gb106, _, none⟩) NB113_106.out _).trans (((cell_far (p := ⟨gb106, _, none⟩) NB113_106.out _).trans (((cell_far (p := ⟨gb106, _, none⟩) NB113_106.out _).trans (hHeld.2.2))))))⟩ (fun hHeld => ?_)
                clear hK K
                refine pure_ (i := 5) (N := some 3) (v := ?_) (a' := ?_) #[true, true, true, true, true, true] rfl rfl (by kernel_rfl) (fun _ _ _ h => h) (Or.inl ⟨by rfl, ?_⟩) ?_ ?_
                rotate_left
                · intro w'
                  go_simp
                  with_reducible rfl
                rotate_left
                · simp only [Act.put, List.setIfInBounds_toArray, List.set_cons_zero, List.set_cons_succ, i64_w, i32_w]
                  rfl
                refine done_ (by kernel_rfl) ?_
                try go_wp2
                refine bodyPost_ret (results_ct rfl _ _ gb106 25 #[.string (rdOf ByteArray.empty t107 0), .string (⟨#[]⟩ : ByteArray), .int .i64 t112] (0, 0) _ rfl (by (with_reducible repeat (first | refine blk_drewN ?_ _ | refine blk_drew ?_ | refine blk_alloc ?_ _)); refine blk_put (cs := #[.string (rdOf ByteArray.empty t107 0), .string (⟨#[]⟩ : ByteArray), .int .i64 0]) ?_ 2 _ rfl; (with_reducible repeat (first | refine blk_drewN ?_ _ | refine blk_drew ?_ | refine blk_alloc ?_ _)); refine blk_put (cs := #[.string (rdOf ByteArray.empty t107 0), .string (⟨#[]⟩ : ByteArray), .int .i64 0]) ?_ 1 _ rfl; (with_reducible repeat (first | refine blk_drewN ?_ _ | refine blk_drew ?_ | refine blk_alloc ?_ _)); refine blk_put (cs := #[.string (⟨#[]⟩ : ByteArray), .string (⟨#[]⟩ : ByteArray), .int .i64 0]) ?_ 0 _ rfl; (with_reducible repeat (first | refine blk_drewN ?_ _ | refine blk_drew ?_ | refine blk_alloc ?_ _)); exact BK106.out) Tryd.underlying25 rfl (by kernel_rfl)) rfl ?_
                exact ⟨by first | rfl | (simp [errW_none, errW_some] <;> rfl) | (simp only [← hji12]; first | rfl | (simp [errW_none, errW_some] <;> rfl)) | (simp [*, errW_none, errW_some] <;> rfl) | (simp [errW_none, errW_some]; generalize ByteArray.toList _ = l_; cases l_ <;> rfl), by repeat (first | (with_reducible first | exact HB.out | apply below_alloc | apply pw_below_drewN | apply below_drew1 | refine below_set ?_ GE106.out | refine below_set ?_ GE113.out) | exact HB.out)⟩
            · rw [if_neg c14] at H
              exact absurd H (by simp)
          · rw [if_neg c13] at H
            exact absurd H (by simp)
        · rw [if_neg c11] at H
          exact absurd H (by simp)

end Go.Proofs.YtaobajfdnidkfaaDoor.PFnPub
