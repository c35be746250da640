-- Written by hprint.py (this session's program, over the kit's printing program, with this session's own contracts in it). Not trusted: Lean checks it.
import Derived.Test.YtmfblbjklmgncaaDoorPFnProtoMessagex0
import Derived.Test.YtmfblbjklmgncaaDoorPFnProtoMessagex1
namespace Go.Proofs.YtmfblbjklmgncaaDoor.PFnProtoMessage
open Go.RowKit Go.Proofs.YtmfblbjklmgncaaDoorW.PrintWords Go.Proofs.YtmfblbjklmgncaaDoorW.PrintLast Go.Proofs.YtmfblbjklmgncaaDoorW.PrintMore
attribute [local go_sem] max2_int min2_int max_two min_two max_three min_three max_four min_four   -- for this text's walks alone
set_option linter.unusedVariables false
set_option linter.unusedSimpArgs false

/-! ### spec_FieldBytes: function 16 -/
def spec_FieldBytes.f (k : Nat) (a0_0 : Int) (a0_1 : Int) (a0_2 : Int) (l0_3 : List Int) : Option (List Int) := (spec_VarintBytes.f k (IntKind.u64.wrap ((IntKind.u64.wrap ((IntKind.u64.wrap (a0_0)) * 8)) + (IntKind.u64.wrap (a0_1))))).bind fun t123 => (if a0_1 = 0 then ((spec_VarintBytes.f k a0_2).bind fun t126 => (if t123.length + t126.length < 140737488355328 then (some (t123 ++ t126)) else (none))) else (if a0_1 = 1 then ((spec_little.f k a0_2 8).bind fun t132 => (if t123.length + t132.length < 140737488355328 then (some (t123 ++ t132)) else (none))) else (if a0_1 = 2 then ((spec_VarintBytes.f k (IntKind.u64.wrap ((l0_3.length : Int)))).bind fun t138 => (if t123.length + t138.length < 140737488355328 then ((some (t123 ++ t138 : List Int)).bind fun y141 => (if y141.length + l0_3.length < 140737488355328 then (some (y141 ++ l0_3)) else (none))) else (none))) else ((spec_little.f k a0_2 4).bind fun t147 => (if t123.length + t147.length < 140737488355328 then (some (t123 ++ t147)) else (none))))))
theorem spec_FieldBytes.mono : ∀ a0 a1 a2 a3 k, LeO (spec_FieldBytes.f k a0 a1 a2 a3) (spec_FieldBytes.f (k + 1) a0 a1 a2 a3) := by
  intro a0 a1 a2 a3 k
  unfold spec_FieldBytes.f
  repeat' first
      | (with_reducible exact spec_VarintBytes.mono _ _)
      | (with_reducible exact spec_little.mono _ _ _)
      | (with_reducible exact LeO.refl _)
      | (with_reducible exact LeO.none _)
      | (with_reducible refine LeO.ite ?_ ?_)
      | (with_reducible refine LeO.bind ?_ (fun _ => ?_))
      | exact spec_VarintBytes.mono _ _
      | exact spec_little.mono _ _ _
      | exact LeO.none _
      | refine LeO.ite ?_ ?_
      | refine LeO.bind ?_ (fun _ => ?_)
def spec_FieldBytes.T8 : Bool × List (List Nat × List Nat) := (true, [([], []), ([], []), ([1], [1]), ([2], [2]), ([3], [3]), ([4], [4]), ([0, 5, 5], [0, 5]), ([], []), ([7], [7]), ([6, 8, 6], [6, 8]), ([9, 9, 0, 1, 2, 3, 4, 5, 6, 7, 8, 9], [9])])
def spec_FieldBytes.B8 : List Nat := [0, 0, 2, 6, 14, 30, 63, 0, 128, 511, 1023]
theorem spec_FieldBytes.tab8 : rtab .any (opsOf Tryd.f16 8) = spec_FieldBytes.T8 := by kernel_rfl
theorem spec_FieldBytes.bits8 : waitsOk spec_FieldBytes.T8.2 spec_FieldBytes.B8 = true := by kernel_rfl
set_option maxHeartbeats 8000000 in
set_option maxRecDepth 100000 in
theorem spec_FieldBytes.calls (k : Nat) (a0_0 : Int) (a0_1 : Int) (a0_2 : Int) (A0_3 : Option Addr) (c0_3 : Nat) (l0_3 : List Int) (r : List Int) (w : World) (hr0_3 : Kd.C (Kd.int .u8) w A0_3 l0_3.length l0_3) (hc0_3 : l0_3.length ≤ c0_3) (h : spec_FieldBytes.f k a0_0 a0_1 a0_2 l0_3 = some r) :
    Calls Tryd.prog 16 #[.agg #[.int .i64 a0_0, .int .i64 a0_1, .int .u64 a0_2, .slice A0_3 l0_3.length c0_3]] w fun e w' => ∃ v0_ : Value, e = .returned (v0_) ∧ Kd.R (Kd.int .u8) 5 w' w.heap.size (fun _ => True) v0_ r ∧ Below w.heap.size w w' := by
  have hu35 := Tryd.underlying35
  have HR0_3 := Aside0.mk hr0_3
  have HC0_3 := Aside0.mk hc0_3
  clear hr0_3 hc0_3
  have HB := Aside0.mk (Below.refl w.heap.size w)
  have H : ((spec_VarintBytes.f k (IntKind.u64.wrap ((IntKind.u64.wrap ((IntKind.u64.wrap (a0_0)) * 8)) + (IntKind.u64.wrap (a0_1))))).bind fun t123 => (if a0_1 = 0 then ((spec_VarintBytes.f k a0_2).bind fun t126 => (if t123.length + t126.length < 140737488355328 then (some (t123 ++ t126)) else (none))) else (if a0_1 = 1 then ((spec_little.f k a0_2 8).bind fun t132 => (if t123.length + t132.length < 140737488355328 then (some (t123 ++ t132)) else (none))) else (if a0_1 = 2 then ((spec_VarintBytes.f k (IntKind.u64.wrap ((l0_3.length : Int)))).bind fun t138 => (if t123.length + t138.length < 140737488355328 then ((some (t123 ++ t138 : List Int)).bind fun y141 => (if y141.length + l0_3.length < 140737488355328 then (some (y141 ++ l0_3)) else (none))) else (none))) else ((spec_little.f k a0_2 4).bind fun t147 => (if t123.length + t147.length < 140737488355328 then (some (t123 ++ t147)) else (none))))))) = some r := h
  clear h
  replace H := Option.bind_eq_some_iff.mp H
  obtain ⟨t123, A20, H⟩ := H
  replace H : (if a0_1 = 0 then ((spec_VarintBytes.f k a0_2).bind fun t126 => (if t123.length + t126.length < 140737488355328 then (some (t123 ++ t126)) else (none))) else (if a0_1 = 1 then ((spec_little.f k a0_2 8).bind fun t132 => (if t123.length + t132.length < 140737488355328 then (some (t123 ++ t132)) else (none))) else (if a0_1 = 2 then ((spec_VarintBytes.f k (IntKind.u64.wrap ((l0_3.length : Int)))).bind fun t138 => (if t123.length + t138.length < 140737488355328 then ((some (t123 ++ t138 : List Int)).bind fun y141 => (if y141.length + l0_3.length < 140737488355328 then (some (y141 ++ l0_3)) else (none))) else (none))) else ((spec_little.f k a0_2 4).bind fun t147 => (if t123.length + t147.length < 140737488355328 then (some (t123 ++ t147)) else (none)))))) = some r := H
  have A2 := Aside0.mk A20
  clear A20
  by_cases c3 : a0_1 = 0
  · rw [if_pos c3] at H
    have c3b0 : (a0_1 == 0) = true := beq_iff_eq.mpr c3
    have c3b1 : (a0_1 != 0) = false := bne_eq_false_iff_eq.mpr c3
    clear c3
    replace H := Option.bind_eq_some_iff.mp H
    obtain ⟨t126, A40, H⟩ := H
    replace H : (if t123.length + t126.length < 140737488355328 then (some (t123 ++ t126)) else (none)) = some r := H
    have A4 := Aside0.mk A40
    clear A40
    by_cases c5 : t123.length + t126.length < 140737488355328
    · rw [if_pos c5] at H
      have LMc5 := Aside0.mk c5
      clear c5
      obtain ⟨y129, hy129⟩ : ∃ y_ : List Int, y_ = (t123 ++ t126) := ⟨_, rfl⟩
      replace H : (some y129) = some r := by first | (rw [hy129]; with_reducible exact H) | (have H2_ := (Option.bind_some _ _).symm.trans H; rw [hy129]; with_reducible exact H2_) | (have H2_ := (Option.bind_some _ _).symm.trans H; with_reducible exact H2_) | with_reducible exact H | (rw [hy129]; exact H) | exact H
      have Ny129 := Aside0.mk hy129
      clear hy129
      obtain rfl := Option.some.inj H
      go_enter Tryd.func16, Tryd.ntmps16
      go_wp2_with (first | ((with_reducible refine gate_dst (N := 1) rfl ?_); refine box_event ?hg (N := 1) ?hd (cs := #[.int .i64 a0_0, .int .i64 a0_1, .int .u64 a0_2, .slice A0_3 l0_3.length c0_3]) (t := 35) ?hr ?_; (case hd => rfl); (case hg => rfl); (case hr => first | (go_simp; done) | (go_simp; rfl)); intro gb122 hg w6 hbox hb; have n0_ := Aside0.mk (below_step (by repeat (first | (with_reducible first | exact HB.out | apply below_alloc | apply pw_below_drewN | apply below_drew1) | exact HB.out)) hb); have n1_ := Aside0.mk (hbox); have n2_ := Aside0.mk ((by rw [hg]; exact (below_size (by repeat (first | (with_reducible first | exact HB.out | apply below_alloc | apply pw_below_drewN | apply below_drew1) | exact HB.out))) : w.heap.size ≤ gb122)); have n3_ := Aside0.mk ((by rw [hg]; exact (below_size (by repeat (first | (with_reducible first | exact HB.out | apply below_alloc | apply pw_below_drewN | apply below_drew1) | exact HB.out))) : w.heap.size ≤ gb122)); clear HB; have HB := n0_; have BK122 := n1_; have GW122 := n2_; have GE122 := n3_; clear n0_ n1_ n2_ n3_; clear hb hbox hg; have hcz7_0 : w6.cell? ⟨gb122, 0, none⟩ = some (.int .i64 a0_0) := (blk_cell BK122.out 0).trans rfl; have hcz7_1 : w6.cell? ⟨gb122, 1, none⟩ = some (.int .i64 a0_1) := (blk_cell BK122.out 1).trans rfl; have hcz7_2 : w6.cell? ⟨gb122, 2, none⟩ = some (.int .u64 a0_2) := (blk_cell BK122.out 2).trans rfl; have hcz7_3 : w6.cell? ⟨gb122, 3, none⟩ = some (.slice A0_3 l0_3.length c0_3) := (blk_cell BK122.out 3).trans rfl; have hfz7_0 := blk_frozen BK122.out 0; have hfz7_1 := blk_frozen BK122.out 1; have hfz7_2 := blk_frozen BK122.out 2; have hfz7_3 := blk_frozen BK122.out 3) | ((with_reducible refine gate_callee (f := 20) rfl ?_); refine goesL_ (some 12) rfl rfl Tryd.func20 (by kernel_rfl) rfl #[.int .u64 (IntKind.u64.wrap ((IntKind.u64.wrap ((IntKind.u64.wrap (a0_0)) * 8)) + (IntKind.u64.wrap (a0_1))))] rfl (by (try simp only [List.map_toArray, List.map_cons, List.map_nil]); first | done | rfl | (simp only [List.length_drop, List.length_take]; rfl)) ?_; (with_reducible refine (spec_VarintBytes.calls k (IntKind.u64.wrap ((IntKind.u64.wrap ((IntKind.u64.wrap (a0_0)) * 8)) + (IntKind.u64.wrap (a0_1)))) t123 _ A2.out).mono ?_); rintro e w8 ⟨v124, rfl, ho0, hb⟩; refine ⟨_, rfl, ?_⟩; have n0_ := Aside0.mk (Kd.R_lower ho0 (below_size (by repeat (first | (with_reducible first | exact HB.out | apply below_alloc | apply pw_below_drewN | apply below_drew1 | refine below_set ?_ GE122.out) | exact HB.out)))); have n1_ := Aside0.mk (blk_below (g := gb122) (o := .cells #[.int .i64 a0_0, .int .i64 a0_1, .int .u64 a0_2, .slice A0_3 l0_3.length c0_3] 35 (0, 0)) (by (with_reducible repeat (first | refine blk_drewN ?_ _ | refine blk_drew ?_ | refine blk_alloc ?_ _)); exact BK122.out) hb); have n2_ := Aside0.mk (below_step (by repeat (first | (with_reducible first | exact HB.out | apply below_alloc | apply pw_below_drewN | apply below_drew1 | refine below_set ?_ GE122.out) | exact HB.out)) hb); clear BK122; clear HB; have HO125 := n0_; have BK122 := n1_; have HB := n2_; clear n0_ n1_ n2_; (try clear hb); (try clear hb2); (try clear hk); (try clear hi); (try clear ho0); have hcz9_0 : w8.cell? ⟨gb122, 0, none⟩ = some (.int .i64 a0_0) := (blk_cell BK122.out 0).trans rfl; have hcz9_1 : w8.cell? ⟨gb122, 1, none⟩ = some (.int .i64 a0_1) := (blk_cell BK122.out 1).trans rfl; have hcz9_2 : w8.cell? ⟨gb122, 2, none⟩ = some (.int .u64 a0_2) := (blk_cell BK122.out 2).trans rfl; have hcz9_3 : w8.cell? ⟨gb122, 3, none⟩ = some (.slice A0_3 l0_3.length c0_3) := (blk_cell BK122.out 3).trans rfl; have hfz9_0 := blk_frozen BK122.out 0; have hfz9_1 := blk_frozen BK122.out 1; have hfz9_2 := blk_frozen BK122.out 2; have hfz9_3 := blk_frozen BK122.out 3) | ((with_reducible refine gate_callee (f := 20) rfl ?_); refine goesL_ (some 20) rfl rfl Tryd.func20 (by kernel_rfl) rfl #[.int .u64 a0_2] rfl (by (try simp only [List.map_toArray, List.map_cons, List.map_nil]); first | done | rfl | (simp only [List.length_drop, List.length_take]; rfl)) ?_; (with_reducible refine (spec_VarintBytes.calls k a0_2 t126 _ A4.out).mono ?_); rintro e w10 ⟨v127, rfl, ho0, hb⟩; refine ⟨_, rfl, ?_⟩; have n0_ := Aside0.mk (Kd.R_elder' (by (with_reducible repeat (first | apply Kd.R_alloc | apply Kd.R_drewN | apply Kd.R_drew)); exact HO125.out) (Kd.R_base ho0) hb); have n1_ := Aside0.mk (Kd.R_lower (Kd.R_new' ho0 (Kd.R_lt (by (with_reducible repeat (first | apply Kd.R_alloc | apply Kd.R_drewN | apply Kd.R_drew)); exact HO125.out))) (below_size (by repeat (first | (with_reducible first | exact HB.out | apply below_alloc | apply pw_below_drewN | apply below_drew1 | refine below_set ?_ GE122.out) | exact HB.out)))); have n2_ := Aside0.mk (blk_below (g := gb122) (o := .cells #[.int .i64 a0_0, .int .i64 a0_1, .int .u64 a0_2, .slice A0_3 l0_3.length c0_3] 35 (0, 0)) (by (with_reducible repeat (first | refine blk_drewN ?_ _ | refine blk_drew ?_ | refine blk_alloc ?_ _)); exact BK122.out) hb); have n3_ := Aside0.mk (below_step (by repeat (first | (with_reducible first | exact HB.out | apply below_alloc | apply pw_below_drewN | apply below_drew1 | refine below_set ?_ GE122.out) | exact HB.out)) hb); clear HO125; clear BK122; clear HB; have HO125 := n0_; have HO128 := n1_; have BK122 := n2_; have HB := n3_; clear n0_ n1_ n2_ n3_; (try clear hb); (try clear hb2); (try clear hk); (try clear hi); (try clear ho0); obtain ⟨Ao12, co12, eo12⟩ := Kd.R_slice HO128.out; subst eo12) | ((with_reducible refine gate_builtin (b := .append) (xs := #[.tmp 17, .tmp 20]) rfl ?_); at_builtin; refine Kd.R_append_rows (Kd.int .u8) (w0 := w) w.heap.size rfl (.tmp 17) (.tmp 20) 22 5 (.int .u8 0) 1 rfl Tryd.underlying22 info5 rfl (by decide) (by omega) v124 t123 t126 _ _ _ (fun k_ => some k_ ≠ (.slice Ao12 t126.length co12 : Value).ownBlock) (fun _ => False) rfl rfl ?aO ?aR (fun _ _ h => h) (fun _ h => h.elim) ?aF ?aB ?aS ?aL ?_; (case aR => repeat (first | exact (Kd.R_reads' HO128.out).2.2 | (with_reducible refine Kd.C_alloc ?_ _) | (with_reducible refine Kd.C_drewN ?_ _) | (with_reducible refine Kd.C_drew ?_))); (case aB => exact (by repeat (first | (with_reducible first | exact HB.out | apply below_alloc | apply pw_below_drewN | apply below_drew1 | refine below_set ?_ GE122.out) | exact HB.out))); (case aF => exact (fun k_ hk => Kd.fresh' (Kd.R_lt (by (with_reducible repeat (first | apply Kd.R_alloc | apply Kd.R_drewN | apply Kd.R_drew)); exact HO128.out)) k_ hk)); (case aO => exact (by (with_reducible repeat (first | apply Kd.R_alloc | apply Kd.R_drewN | apply Kd.R_drew)); exact Kd.R_mono HO125.out (fun _ hk => hk.2))); (case aS => exact (below_size (by repeat (first | (with_reducible first | exact HB.out | apply below_alloc | apply pw_below_drewN | apply below_drew1 | refine below_set ?_ GE122.out) | exact HB.out)))); (case aL => have := LMc5.out; omega); intro v130 w11 ho hb hg hat; rw [← Ny129.out] at ho; have n0_ := Aside0.mk (blk_grown (g := gb122) (o := .cells #[.int .i64 a0_0, .int .i64 a0_1, .int .u64 a0_2, .slice A0_3 l0_3.length c0_3] 35 (0, 0)) (by (with_reducible repeat (first | refine blk_drewN ?_ _ | refine blk_drew ?_ | refine blk_alloc ?_ _)); exact BK122.out) hg (Kd.R_ne HO125.out BK122.out (by decide))); have n1_ := Aside0.mk (Kd.R_after (ok := (fun _ => True)) (by (with_reducible repeat (first | apply Kd.R_alloc | apply Kd.R_drewN | apply Kd.R_drew)); exact HO128.out) hg hat); have n2_ := Aside0.mk (hb); have n3_ := Aside0.mk (ho); clear BK122; clear HO128; clear HB; clear HO125; have BK122 := n0_; have HO128 := n1_; have HB := n2_; have HO131 := n3_; clear n0_ n1_ n2_ n3_; clear ho hb hg hat))
      go_ret
      exact ⟨_, by first | rfl | (simp [errW_none, errW_some] <;> rfl) | (simp [*, errW_none, errW_some] <;> rfl), by (with_reducible repeat (first | apply Kd.R_alloc | apply Kd.R_drewN | apply Kd.R_drew)); exact Kd.R_mono HO131.out (fun _ hk => trivial), by repeat (first | (with_reducible first | exact HB.out | apply below_alloc | apply pw_below_drewN | apply below_drew1 | refine below_set ?_ GE122.out) | exact HB.out)⟩
    · rw [if_neg c5] at H
      exact absurd H (by simp)
  · rw [if_neg c3] at H
    have c3b0 : (a0_1 == 0) = false := beq_eq_false_iff_ne.mpr c3
    have c3b1 : (a0_1 != 0) = true := bne_iff_ne.mpr c3
    by_cases c13 : a0_1 = 1
    · rw [if_pos c13] at H
      have c13b0 : (a0_1 == 1) = true := beq_iff_eq.mpr c13
      have c13b1 : (a0_1 != 1) = false := bne_eq_false_iff_eq.mpr c13
      clear c13
      replace H := Option.bind_eq_some_iff.mp H
      obtain ⟨t132, A140, H⟩ := H
      replace H : (if t123.length + t132.length < 140737488355328 then (some (t123 ++ t132)) else (none)) = some r := H
      have A14 := Aside0.mk A140
      clear A140
      by_cases c15 : t123.length + t132.length < 140737488355328
      · rw [if_pos c15] at H
        have LMc15 := Aside0.mk c15
        clear c15
        obtain ⟨y135, hy135⟩ : ∃ y_ : List Int, y_ = (t123 ++ t132) := ⟨_, rfl⟩
        replace H : (some y135) = some r := by first | (rw [hy135]; with_reducible exact H) | (have H2_ := (Option.bind_some _ _).symm.trans H; rw [hy135]; with_reducible exact H2_) | (have H2_ := (Option.bind_some _ _).symm.trans H; with_reducible exact H2_) | with_reducible exact H | (rw [hy135]; exact H) | exact H
        have Ny135 := Aside0.mk hy135
        clear hy135
        obtain rfl := Option.some.inj H
        go_enter Tryd.func16, Tryd.ntmps16
        go_wp2_with (first | ((with_reducible refine gate_dst (N := 1) rfl ?_); refine box_event ?hg (N := 1) ?hd (cs := #[.int .i64 a0_0, .int .i64 a0_1, .int .u64 a0_2, .slice A0_3 l0_3.length c0_3]) (t := 35) ?hr ?_; (case hd => rfl); (case hg => rfl); (case hr => first | (go_simp; done) | (go_simp; rfl)); intro gb122 hg w16 hbox hb; have n0_ := Aside0.mk (below_step (by repeat (first | (with_reducible first | exact HB.out | apply below_alloc | apply pw_below_drewN | apply below_drew1) | exact HB.out)) hb); have n1_ := Aside0.mk (hbox); have n2_ := Aside0.mk ((by rw [hg]; exact (below_size (by repeat (first | (with_reducible first | exact HB.out | apply below_alloc | apply pw_below_drewN | apply below_drew1) | exact HB.out))) : w.heap.size ≤ gb122)); have n3_ := Aside0.mk ((by rw [hg]; exact (below_size (by repeat (first | (with_reducible first | exact HB.out | apply below_alloc | apply pw_below_drewN | apply below_drew1) | exact HB.out))) : w.heap.size ≤ gb122)); clear HB; have HB := n0_; have BK122 := n1_; have GW122 := n2_; have GE122 := n3_; clear n0_ n1_ n2_ n3_; clear hb hbox hg; have hcz17_0 : w16.cell? ⟨gb122, 0, none⟩ = some (.int .i64 a0_0) := (blk_cell BK122.out 0).trans rfl; have hcz17_1 : w16.cell? ⟨gb122, 1, none⟩ = some (.int .i64 a0_1) := (blk_cell BK122.out 1).trans rfl; have hcz17_2 : w16.cell? ⟨gb122, 2, none⟩ = some (.int .u64 a0_2) := (blk_cell BK122.out 2).trans rfl; have hcz17_3 : w16.cell? ⟨gb122, 3, none⟩ = some (.slice A0_3 l0_3.length c0_3) := (blk_cell BK122.out 3).trans rfl; have hfz17_0 := blk_frozen BK122.out 0; have hfz17_1 := blk_frozen BK122.out 1; have hfz17_2 := blk_frozen BK122.out 2; have hfz17_3 := blk_frozen BK122.out 3) | ((with_reducible refine gate_callee (f := 20) rfl ?_); refine goesL_ (some 12) rfl rfl Tryd.func20 (by kernel_rfl) rfl #[.int .u64 (IntKind.u64.wrap ((IntKind.u64.wrap ((IntKind.u64.wrap (a0_0)) * 8)) + (IntKind.u64.wrap (a0_1))))] rfl (by (try simp only [List.map_toArray, List.map_cons, List.map_nil]); first | done | rfl | (simp only [List.length_drop, List.length_take]; rfl)) ?_; (with_reducible refine (spec_VarintBytes.calls k (IntKind.u64.wrap ((IntKind.u64.wrap ((IntKind.u64.wrap (a0_0)) * 8)) + (IntKind.u64.wrap (a0_1)))) t123 _ A2.out).mono ?_); rintro e w18 ⟨v124, rfl, ho0, hb⟩; refine ⟨_, rfl, ?_⟩; have n0_ := Aside0.mk (Kd.R_lower ho0 (below_size (by repeat (first | (with_reducible first | exact HB.out | apply below_alloc | apply pw_below_drewN | apply below_drew1 | refine below_set ?_ GE122.out) | exact HB.out)))); have n1_ := Aside0.mk (blk_below (g := gb122) (o := .cells #[.int .i64 a0_0, .int .i64 a0_1, .int .u64 a0_2, .slice A0_3 l0_3.length c0_3] 35 (0, 0)) (by (with_reducible repeat (first | refine blk_drewN ?_ _ | refine blk_drew ?_ | refine blk_alloc ?_ _)); exact BK122.out) hb); have n2_ := Aside0.mk (below_step (by repeat (first | (with_reducible first | exact HB.out | apply below_alloc | apply pw_below_drewN | apply below_drew1 | refine below_set ?_ GE122.out) | exact HB.out)) hb); clear BK122; clear HB; have HO125 := n0_; have BK122 := n1_; have HB := n2_; clear n0_ n1_ n2_; (try clear hb); (try clear hb2); (try clear hk); (try clear hi); (try clear ho0); have hcz19_0 : w18.cell? ⟨gb122, 0, none⟩ = some (.int .i64 a0_0) := (blk_cell BK122.out 0).trans rfl; have hcz19_1 : w18.cell? ⟨gb122, 1, none⟩ = some (.int .i64 a0_1) := (blk_cell BK122.out 1).trans rfl; have hcz19_2 : w18.cell? ⟨gb122, 2, none⟩ = some (.int .u64 a0_2) := (blk_cell BK122.out 2).trans rfl; have hcz19_3 : w18.cell? ⟨gb122, 3, none⟩ = some (.slice A0_3 l0_3.length c0_3) := (blk_cell BK122.out 3).trans rfl; have hfz19_0 := blk_frozen BK122.out 0; have hfz19_1 := blk_frozen BK122.out 1; have hfz19_2 := blk_frozen BK122.out 2; have hfz19_3 := blk_frozen BK122.out 3) | ((with_reducible refine gate_callee (f := 38) rfl ?_); refine goesL_ (some 27) rfl rfl Tryd.func38 (by kernel_rfl) rfl #[.int .u64 a0_2, .int .i64 8] rfl (by (try simp only [List.map_toArray, List.map_cons, List.map_nil]); first | done | rfl | (simp only [List.length_drop, List.length_take]; rfl)) ?_; (with_reducible refine (spec_little.calls k a0_2 8 t132 _ A14.out).mono ?_); rintro e w20 ⟨v133, rfl, ho0, hb⟩; refine ⟨_, rfl, ?_⟩; have n0_ := Aside0.mk (Kd.R_elder' (by (with_reducible repeat (first | apply Kd.R_alloc | apply Kd.R_drewN | apply Kd.R_drew)); exact HO125.out) (Kd.R_base ho0) hb); have n1_ := Aside0.mk (Kd.R_lower (Kd.R_new' ho0 (Kd.R_lt (by (with_reducible repeat (first | apply Kd.R_alloc | apply Kd.R_drewN | apply Kd.R_drew)); exact HO125.out))) (below_size (by repeat (first | (with_reducible first | exact HB.out | apply below_alloc | apply pw_below_drewN | apply below_drew1 | refine below_set ?_ GE122.out) | exact HB.out)))); have n2_ := Aside0.mk (blk_below (g := gb122) (o := .cells #[.int .i64 a0_0, .int .i64 a0_1, .int .u64 a0_2, .slice A0_3 l0_3.length c0_3] 35 (0, 0)) (by (with_reducible repeat (first | refine blk_drewN ?_ _ | refine blk_drew ?_ | refine blk_alloc ?_ _)); exact BK122.out) hb); have n3_ := Aside0.mk (below_step (by repeat (first | (with_reducible first | exact HB.out | apply below_alloc | apply pw_below_drewN | apply below_drew1 | refine below_set ?_ GE122.out) | exact HB.out)) hb); clear HO125; clear BK122; clear HB; have HO125 := n0_; have HO134 := n1_; have BK122 := n2_; have HB := n3_; clear n0_ n1_ n2_ n3_; (try clear hb); (try clear hb2); (try clear hk); (try clear hi); (try clear ho0); obtain ⟨Ao22, co22, eo22⟩ := Kd.R_slice HO134.out; subst eo22) | ((with_reducible refine gate_builtin (b := .append) (xs := #[.tmp 24, .tmp 27]) rfl ?_); at_builtin; refine Kd.R_append_rows (Kd.int .u8) (w0 := w) w.heap.size rfl (.tmp 24) (.tmp 27) 22 5 (.int .u8 0) 1 rfl Tryd.underlying22 info5 rfl (by decide) (by omega) v124 t123 t132 _ _ _ (fun k_ => some k_ ≠ (.slice Ao22 t132.length co22 : Value).ownBlock) (fun _ => False) rfl rfl ?aO ?aR (fun _ _ h => h) (fun _ h => h.elim) ?aF ?aB ?aS ?aL ?_; (case aR => repeat (first | exact (Kd.R_reads' HO134.out).2.2 | (with_reducible refine Kd.C_alloc ?_ _) | (with_reducible refine Kd.C_drewN ?_ _) | (with_reducible refine Kd.C_drew ?_))); (case aB => exact (by repeat (first | (with_reducible first | exact HB.out | apply below_alloc | apply pw_below_drewN | apply below_drew1 | refine below_set ?_ GE122.out) | exact HB.out))); (case aF => exact (fun k_ hk => Kd.fresh' (Kd.R_lt (by (with_reducible repeat (first | apply Kd.R_alloc | apply Kd.R_drewN | apply Kd.R_drew)); exact HO134.out)) k_ hk)); (case aO => exact (by (with_reducible repeat (first | apply Kd.R_alloc | apply Kd.R_drewN | apply Kd.R_drew)); exact Kd.R_mono HO125.out (fun _ hk => hk.2))); (case aS => exact (below_size (by repeat (first | (with_reducible first | exact HB.out | apply below_alloc | apply pw_below_drewN | apply below_drew1 | refine below_set ?_ GE122.out) | exact HB.out)))); (case aL => have := LMc15.out; omega); intro v136 w21 ho hb hg hat; rw [← Ny135.out] at ho; have n0_ := Aside0.mk (blk_grown (g := gb122) (o := .cells #[.int .i64 a0_0, .int .i64 a0_1, .int .u64 a0_2, .slice A0_3 l0_3.length c0_3] 35 (0, 0)) (by (with_reducible repeat (first | refine blk_drewN ?_ _ | refine blk_drew ?_ | refine blk_alloc ?_ _)); exact BK122.out) hg (Kd.R_ne HO125.out BK122.out (by decide))); have n1_ := Aside0.mk (Kd.R_after (ok := (fun _ => True)) (by (with_reducible repeat (first | apply Kd.R_alloc | apply Kd.R_drewN | apply Kd.R_drew)); exact HO134.out) hg hat); have n2_ := Aside0.mk (hb); have n3_ := Aside0.mk (ho); clear BK122; clear HO134; clear HB; clear HO125; have BK122 := n0_; have HO134 := n1_; have HB := n2_; have HO137 := n3_; clear n0_ n1_ n2_ n3_; clear ho hb hg hat))
        go_ret
        exact ⟨_, by first | rfl | (simp [errW_none, errW_some] <;> rfl) | (simp [*, errW_none, errW_some] <;> rfl), by (with_reducible repeat (first | apply Kd.R_alloc | apply Kd.R_drewN | apply Kd.R_drew)); exact Kd.R_mono HO137.out (fun _ hk => trivial), by repeat (first | (with_reducible first | exact HB.out | apply below_alloc | apply pw_below_drewN | apply below_drew1 | refine below_set ?_ GE122.out) | exact HB.out)⟩
      · rw [if_neg c15] at H
        exact absurd H (by simp)
    · rw [if_neg c13] at H
      have c13b0 : (a0_1 == 1) = false := beq_eq_false_iff_ne.mpr c13
      have c13b1 : (a0_1 != 1) = true := bne_iff_ne.mpr c13
      by_cases c23 : a0_1 = 2
      · rw [if_pos c23] at H
        have c23b0 : (a0_1 == 2) = true := beq_iff_eq.mpr c23
        have c23b1 : (a0_1 != 2) = false := bne_eq_false_iff_eq.mpr c23
        clear c23
        replace H := Option.bind_eq_some_iff.mp H
        obtain ⟨t138, A240, H⟩ := H
        replace H : (if t123.length + t138.length < 140737488355328 then ((some (t123 ++ t138 : List Int)).bind fun y141 => (if y141.length + l0_3.length < 140737488355328 then (some (y141 ++ l0_3)) else (none))) else (none)) = some r := H
        have A24 := Aside0.mk A240
        clear A240
        by_cases c25 : t123.length + t138.length < 140737488355328
        · rw [if_pos c25] at H
          have LMc25 := Aside0.mk c25
          clear c25
          obtain ⟨y141, hy141⟩ : ∃ y_ : List Int, y_ = (t123 ++ t138) := ⟨_, rfl⟩
          replace H : (if y141.length + l0_3.length < 140737488355328 then (some (y141 ++ l0_3)) else (none)) = some r := by first | (rw [hy141]; with_reducible exact H) | (have H2_ := (Option.bind_some _ _).symm.trans H; rw [hy141]; with_reducible exact H2_) | (have H2_ := (Option.bind_some _ _).symm.trans H; with_reducible exact H2_) | with_reducible exact H | (rw [hy141]; exact H) | exact H
          have Ny141 := Aside0.mk hy141
          clear hy141
          by_cases c26 : y141.length + l0_3.length < 140737488355328
          · rw [if_pos c26] at H
            have LMc26 := Aside0.mk c26
            clear c26
            obtain ⟨y144, hy144⟩ : ∃ y_ : List Int, y_ = (y141 ++ l0_3) := ⟨_, rfl⟩
            replace H : (some y144) = some r := by first | (rw [hy144]; with_reducible exact H) | (have H2_ := (Option.bind_some _ _).symm.trans H; rw [hy144]; with_reducible exact H2_) | (have H2_ := (Option.bind_some _ _).symm.trans H; with_reducible exact H2_) | with_reducible exact H | (rw [hy144]; exact H) | exact H
            have Ny144 := Aside0.mk hy144
            clear hy144
            obtain rfl := Option.some.inj H
            go_enter Tryd.func16, Tryd.ntmps16
            try go_wp2_with (first | ((with_reducible refine gate_dst (N := 1) rfl ?_); refine box_event ?hg (N := 1) ?hd (cs := #[.int .i64 a0_0, .int .i64 a0_1, .int .u64 a0_2, .slice A0_3 l0_3.length c0_3]) (t := 35) ?hr ?_; (case hd => rfl); (case hg => rfl); (case hr => first | (go_simp; done) | (go_simp; rfl)); intro gb122 hg w27 hbox hb; have n0_ := Aside0.mk (below_step (by repeat (first | (with_reducible first | exact HB.out | apply below_alloc | apply pw_below_drewN | apply below_drew1) | exact HB.out)) hb); have n1_ := Aside0.mk (hbox); have n2_ := Aside0.mk ((by rw [hg]; exact (below_size (by repeat (first | (with_reducible first | exact HB.out | apply below_alloc | apply pw_below_drewN | apply below_drew1) | exact HB.out))) : w.heap.size ≤ gb122)); have n3_ := Aside0.mk ((by rw [hg]; exact (below_size (by repeat (first | (with_reducible first | exact HB.out | apply below_alloc | apply pw_below_drewN | apply below_drew1) | exact HB.out))) : w.heap.size ≤ gb122)); clear HB; have HB := n0_; have BK122 := n1_; have GW122 := n2_; have GE122 := n3_; clear n0_ n1_ n2_ n3_; clear hb hbox hg; have hcz28_0 : w27.cell? ⟨gb122, 0, none⟩ = some (.int .i64 a0_0) := (blk_cell BK122.out 0).trans rfl; have hcz28_1 : w27.cell? ⟨gb122, 1, none⟩ = some (.int .i64 a0_1) := (blk_cell BK122.out 1).trans rfl; have hcz28_2 : w27.cell? ⟨gb122, 2, none⟩ = some (.int .u64 a0_2) := (blk_cell BK122.out 2).trans rfl; have hcz28_3 : w27.cell? ⟨gb122, 3, none⟩ = some (.slice A0_3 l0_3.length c0_3) := (blk_cell BK122.out 3).trans rfl; have hfz28_0 := blk_frozen BK122.out 0; have hfz28_1 := blk_frozen BK122.out 1; have hfz28_2 := blk_frozen BK122.out 2; have hfz28_3 := blk_frozen BK122.out 3) | ((with_reducible refine gate_callee (f := 20) rfl ?_); refine goesL_ (some 12) rfl rfl Tryd.func20 (by kernel_rfl) rfl #[.int .u64 (IntKind.u64.wrap ((IntKind.u64.wrap ((IntKind.u64.wrap (a0_0)) * 8)) + (IntKind.u64.wrap (a0_1))))] rfl (by (try simp only [List.map_toArray, List.map_cons, List.map_nil]); first | done | rfl | (simp only [List.length_drop, List.length_take]; rfl)) ?_; (with_reducible refine (spec_VarintBytes.calls k (IntKind.u64.wrap ((IntKind.u64.wrap ((IntKind.u64.wrap (a0_0)) * 8)) + (IntKind.u64.wrap (a0_1)))) t123 _ A2.out).mono ?_); rintro e w29 ⟨v124, rfl, ho0, hb⟩; refine ⟨_, rfl, ?_⟩; have n0_ := Aside0.mk (Kd.R_lower ho0 (below_size (by repeat (first | (with_reducible first | exact HB.out | apply below_alloc | apply pw_below_drewN | apply below_drew1 | refine below_set ?_ GE122.out) | exact HB.out)))); have n1_ := Aside0.mk (blk_below (g := gb122) (o := .cells #[.int .i64 a0_0, .int .i64 a0_1, .int .u64 a0_2, .slice A0_3 l0_3.length c0_3] 35 (0, 0)) (by (with_reducible repeat (first | refine blk_drewN ?_ _ | refine blk_drew ?_ | refine blk_alloc ?_ _)); exact BK122.out) hb); have n2_ := Aside0.mk (below_step (by repeat (first | (with_reducible first | exact HB.out | apply below_alloc | apply pw_below_drewN | apply below_drew1 | refine below_set ?_ GE122.out) | exact HB.out)) hb); clear BK122; clear HB; have HO125 := n0_; have BK122 := n1_; have HB := n2_; clear n0_ n1_ n2_; (try clear hb); (try clear hb2); (try clear hk); (try clear hi); (try clear ho0); have hcz30_0 : w29.cell? ⟨gb122, 0, none⟩ = some (.int .i64 a0_0) := (blk_cell BK122.out 0).trans rfl; have hcz30_1 : w29.cell? ⟨gb122, 1, none⟩ = some (.int .i64 a0_1) := (blk_cell BK122.out 1).trans rfl; have hcz30_2 : w29.cell? ⟨gb122, 2, none⟩ = some (.int .u64 a0_2) := (blk_cell BK122.out 2).trans rfl; have hcz30_3 : w29.cell? ⟨gb122, 3, none⟩ = some (.slice A0_3 l0_3.length c0_3) := (blk_cell BK122.out 3).trans rfl; have hfz30_0 := blk_frozen BK122.out 0; have hfz30_1 := blk_frozen BK122.out 1; have hfz30_2 := blk_frozen BK122.out 2; have hfz30_3 := blk_frozen BK122.out 3))
            have n0_ := Aside0.mk (Kd.R_drew HO125.out)
            have n1_ := Aside0.mk (blk_drew BK122.out)
            have n2_ := Aside0.mk (below_drew1 HB.out)
            clear HO125
            clear BK122
            clear HB
            have HO125 := n0_
            have BK122 := n1_
            have HB := n2_
            clear n0_ n1_ n2_
            refine start_ (n := 11) (S := fun w' => w'.cell? ⟨gb122, 0, none⟩ = some (.int .i64 a0_0) ∧ w'.cell? ⟨gb122, 1, none⟩ = some (.int .i64 a0_1) ∧ w'.cell? ⟨gb122, 2, none⟩ = some (.int .u64 a0_2) ∧ w'.cell? ⟨gb122, 3, none⟩ = some (.slice A0_3 l0_3.length c0_3)) (ds := []) #[false, false, false, false, false, false, false, false, false, false, false] (by kernel_rfl) rfl rfl ⟨(blk_cell BK122.out 0).trans rfl, (blk_cell BK122.out 1).trans rfl, (blk_cell BK122.out 2).trans rfl, (blk_cell BK122.out 3).trans rfl⟩ (fun hHeld => ?_); refine with_tabW spec_FieldBytes.tab8 spec_FieldBytes.bits8 (fun HT_ HW_ => ?_)
            generalize w29.drew = w31 at HO125 BK122 HB hHeld ⊢
            refine pure_ (i := 0) (N := some 31) (v := ?_) (a' := ?_) #[true, false, false, false, false, false, false, false, false, false, false] rfl rfl (any_of HT_.out (by kernel_rfl)) (fun _ _ _ h => h) (Or.inl ⟨by rfl, ?_⟩) ?_ ?_
            rotate_left
            · intro w'
              go_simp
              with_reducible rfl
            rotate_left
            · simp only [Act.put, List.setIfInBounds_toArray, List.set_cons_zero, List.set_cons_succ, i64_w, i32_w]
              rfl
            refine pure_ (i := 1) (N := some 32) (v := ?_) (a' := ?_) #[true, true, false, false, false, false, false, false, false, false, false] rfl rfl (any_of HT_.out (by kernel_rfl)) (fun _ _ _ h => h) (Or.inl ⟨by rfl, ?_⟩) ?_ ?_
            rotate_left
            · intro w'
              go_simp
              with_reducible rfl
            rotate_left
            · simp only [Act.put, List.setIfInBounds_toArray, List.set_cons_zero, List.set_cons_succ, i64_w, i32_w]
              rfl
            refine pure_ (i := 7) (N := some 38) (v := ?_) (a' := ?_) #[true, true, false, false, false, false, false, true, false, false, false] rfl rfl (any_of HT_.out (by kernel_rfl)) (fun _ _ _ h => h) (Or.inl ⟨by rfl, ?_⟩) ?_ ?_
            rotate_left
            · intro w'
              go_simp
              with_reducible rfl
            rotate_left
            · simp only [Act.put, List.setIfInBounds_toArray, List.set_cons_zero, List.set_cons_succ, i64_w, i32_w]
              rfl
            refine take_ (i := 2) (N := some 33) (v := ?_) (a' := ?_) #[true, true, true, false, false, false, false, true, false, false, false] rfl rfl (take_ofW HT_.out HW_.out (by kernel_rfl)) (fun _ _ _ h => h) (Or.inl ⟨by rfl, ?_⟩) hHeld ?_ ?_
            rotate_left
            · rintro w' ⟨s0, s1, s2, s3⟩
              go_simp
              with_reducible rfl
            rotate_left
            · simp only [Act.put, List.setIfInBounds_toArray, List.set_cons_zero, List.set_cons_succ, i64_w, i32_w]
              rfl
            refine pure_ (i := 3) (N := some 34) (v := ?_) (a' := ?_) #[true, true, true, true, false, false, false, true, false, false, false] rfl rfl (any_of HT_.out (by kernel_rfl)) (fun _ _ _ h => h) (Or.inl ⟨by rfl, ?_⟩) ?_ ?_
            rotate_left
            · intro w'
              go_simp
              with_reducible rfl
            rotate_left
            · simp only [Act.put, List.setIfInBounds_toArray, List.set_cons_zero, List.set_cons_succ, i64_w, i32_w]
              rfl
            refine pure_ (i := 4) (N := some 35) (v := ?_) (a' := ?_) #[true, true, true, true, true, false, false, true, false, false, false] rfl rfl (any_of HT_.out (by kernel_rfl)) (fun _ _ _ h => h) (Or.inl ⟨by rfl, ?_⟩) ?_ ?_
            rotate_left
            · intro w'
              go_simp
              with_reducible rfl
            rotate_left
            · simp only [Act.put, List.setIfInBounds_toArray, List.set_cons_zero, List.set_cons_succ, i64_w, i32_w]
              rfl
            refine take_ (i := 8) (N := some 39) (v := ?_) (a' := ?_) #[true, true, true, true, true, false, false, true, true, false, false] rfl rfl (take_ofW HT_.out HW_.out (by kernel_rfl)) (fun _ _ _ h => h) (Or.inl ⟨by rfl, ?_⟩) hHeld ?_ ?_
            rotate_left
            · rintro w' ⟨s0, s1, s2, s3⟩
              go_simp
              with_reducible rfl
            rotate_left
            · simp only [Act.put, List.setIfInBounds_toArray, List.set_cons_zero, List.set_cons_succ, i64_w, i32_w]
              rfl
            refine one_ (i := 5) (N := some 36) #[true, true, true, true, true, true, false, true, true, false, false] rfl rfl (one_of HT_.out (by kernel_rfl)) (by decide) (fun K hK => ?_)
            refine goes_ Tryd.func20 (by kernel_rfl) rfl #[.int .u64 (IntKind.u64.wrap ((l0_3.length : Int)))] (by rfl) rfl rfl (by (try simp only [List.map_toArray, List.map_cons, List.map_nil]); first | done | rfl | (simp only [List.length_drop, List.length_take]; rfl)) ?_
            with_reducible refine (spec_VarintBytes.calls k (IntKind.u64.wrap ((l0_3.length : Int))) t138 _ A24.out).mono ?_
            rintro e w32 ⟨v139, rfl, ho0, hb⟩
            refine ⟨_, rfl, ?_⟩
            have n0_ := Aside0.mk (Kd.R_elder' (by (with_reducible repeat (first | apply Kd.R_alloc | apply Kd.R_drewN | apply Kd.R_drew)); exact HO125.out) (Kd.R_base ho0) hb)
            have n1_ := Aside0.mk (Kd.R_lower (Kd.R_new' ho0 (Kd.R_lt (by (with_reducible repeat (first | apply Kd.R_alloc | apply Kd.R_drewN | apply Kd.R_drew)); exact HO125.out))) (below_size (by repeat (first | (with_reducible first | exact HB.out | apply below_alloc | apply pw_below_drewN | apply below_drew1 | refine below_set ?_ GE122.out) | exact HB.out))))
            have n2_ := Aside0.mk (blk_below (g := gb122) (o := .cells #[.int .i64 a0_0, .int .i64 a0_1, .int .u64 a0_2, .slice A0_3 l0_3.length c0_3] 35 (0, 0)) (by (with_reducible repeat (first | refine blk_drewN ?_ _ | refine blk_drew ?_ | refine blk_alloc ?_ _)); exact BK122.out) hb)
            have n3_ := Aside0.mk (below_step (by repeat (first | (with_reducible first | exact HB.out | apply below_alloc | apply pw_below_drewN | apply below_drew1 | refine below_set ?_ GE122.out) | exact HB.out)) hb)
            clear HO125
            clear BK122
            clear HB
            have HO125 := n0_
            have HO140 := n1_
            have BK122 := n2_
            have HB := n3_
            clear n0_ n1_ n2_ n3_
            (try clear hb)
            (try clear hb2)
            (try clear hk)
            (try clear hi)
            (try clear ho0)
            obtain ⟨Ao34, co34, eo34⟩ := Kd.R_slice HO140.out
            (first | subst eo34 | (injection eo34 with f1_ f2_ f3_; have f4_ := f1_.symm; have f5_ := f3_.symm; clear f1_ f2_ f3_; subst f4_; subst f5_))
            refine hK.out _ _ ⟨(blk_cell BK122.out 0).trans rfl, (blk_cell BK122.out 1).trans rfl, (blk_cell BK122.out 2).trans rfl, (blk_cell BK122.out 3).trans rfl⟩ (fun hHeld => ?_)
            clear hK K
            refine norm_ (a' := ?_) ?_ ?_
            rotate_left
            · show Act.put _ (some 36) _ = _
              simp only [Act.put, List.setIfInBounds_toArray, List.set_cons_zero, List.set_cons_succ, i64_w, i32_w]
              rfl
            refine one_ (i := 6) (N := some 37) #[true, true, true, true, true, true, true, true, true, false, false] rfl rfl (one_of HT_.out (by kernel_rfl)) (by decide) (fun K hK => ?_)
            refine Kd.R_append_rows_step (Kd.int .u8) (w0 := w) w.heap.size (by rfl) (.tmp 31) (.tmp 36) 22 5 (.int .u8 0) 1 rfl Tryd.underlying22 info5 rfl (by decide) (by omega) v124 t123 t138 _ _ _ (fun k_ => some k_ ≠ (.slice Ao34 t138.length co34 : Value).ownBlock) (fun _ => False) rfl rfl ?aO ?aR (fun _ _ h => h) (fun _ h => h.elim) ?aF ?aB ?aS ?aL ?_
            (case aR => repeat (first | exact (Kd.R_reads' HO140.out).2.2 | (with_reducible refine Kd.C_alloc ?_ _) | (with_reducible refine Kd.C_drewN ?_ _) | (with_reducible refine Kd.C_drew ?_)))
            (case aB => exact (by repeat (first | (with_reducible first | exact HB.out | apply below_alloc | apply pw_below_drewN | apply below_drew1 | refine below_set ?_ GE122.out) | exact HB.out)))
            (case aF => exact (fun k_ hk => Kd.fresh' (Kd.R_lt (by (with_reducible repeat (first | apply Kd.R_alloc | apply Kd.R_drewN | apply Kd.R_drew)); exact HO140.out)) k_ hk))
            (case aO => exact (by (with_reducible repeat (first | apply Kd.R_alloc | apply Kd.R_drewN | apply Kd.R_drew)); exact Kd.R_mono HO125.out (fun _ hk => hk.2)))
            (case aS => exact (below_size (by repeat (first | (with_reducible first | exact HB.out | apply below_alloc | apply pw_below_drewN | apply below_drew1 | refine below_set ?_ GE122.out) | exact HB.out))))
            (case aL => have := LMc25.out; omega)
            intro v142 w33 ho hb hg hat
            rw [← Ny141.out] at ho
            have n0_ := Aside0.mk (blk_grown (g := gb122) (o := .cells #[.int .i64 a0_0, .int .i64 a0_1, .int .u64 a0_2, .slice A0_3 l0_3.length c0_3] 35 (0, 0)) (by (with_reducible repeat (first | refine blk_drewN ?_ _ | refine blk_drew ?_ | refine blk_alloc ?_ _)); exact BK122.out) hg (Kd.R_ne HO125.out BK122.out (by decide)))
            have n1_ := Aside0.mk (Kd.R_after (ok := (fun _ => True)) (by (with_reducible repeat (first | apply Kd.R_alloc | apply Kd.R_drewN | apply Kd.R_drew)); exact HO140.out) hg hat)
            have n2_ := Aside0.mk (hb)
            have n3_ := Aside0.mk (ho)
            clear BK122
            clear HO140
            clear HB
            clear HO125
            have BK122 := n0_
            have HO140 := n1_
            have HB := n2_
            have HO143 := n3_
            clear n0_ n1_ n2_ n3_
            clear ho hb hg hat
            refine hK.out _ _ ⟨(blk_cell BK122.out 0).trans rfl, (blk_cell BK122.out 1).trans rfl, (blk_cell BK122.out 2).trans rfl, (blk_cell BK122.out 3).trans rfl⟩ (fun hHeld => ?_)
            clear hK K
            refine norm_ (a' := ?_) ?_ ?_
            rotate_left
            · show Act.put _ (some 37) _ = _
              simp only [Act.put, List.setIfInBounds_toArray, List.set_cons_zero, List.set_cons_succ, i64_w, i32_w]
              rfl
            refine one_ (i := 9) (N := some 40) #[true, true, true, true, true, true, true, true, true, true, false] rfl rfl (one_of HT_.out (by kernel_rfl)) (by decide) (fun K hK => ?_)
            refine Kd.R_append_rows_step (Kd.int .u8) (w0 := w) w.heap.size (by rfl) (.tmp 37) (.tmp 39) 22 5 (.int .u8 0) 1 rfl Tryd.underlying22 info5 rfl (by decide) (by omega) v142 y141 l0_3 _ _ _ (fun k_ => some k_ ≠ (.slice Ao34 t138.length co34 : Value).ownBlock) (fun _ => False) rfl rfl ?aO ?aR (fun _ _ h => h) (fun _ h => h.elim) ?aF ?aB ?aS ?aL ?_
            (case aR => repeat (first | exact (Kd.C_below HR0_3.out HB.out) | (with_reducible refine Kd.C_alloc ?_ _) | (with_reducible refine Kd.C_drewN ?_ _) | (with_reducible refine Kd.C_drew ?_)))
            (case aB => exact (by repeat (first | (with_reducible first | exact HB.out | apply below_alloc | apply pw_below_drewN | apply below_drew1 | refine below_set ?_ GE122.out) | exact HB.out)))
            (case aF => exact (fun k_ hk => Kd.fresh' (Kd.R_lt (by (with_reducible repeat (first | apply Kd.R_alloc | apply Kd.R_drewN | apply Kd.R_drew)); exact HO140.out)) k_ hk))
            (case aO => exact (by (with_reducible repeat (first | apply Kd.R_alloc | apply Kd.R_drewN | apply Kd.R_drew)); exact HO143.out))
            (case aS => exact (below_size (by repeat (first | (with_reducible first | exact HB.out | apply below_alloc | apply pw_below_drewN | apply below_drew1 | refine below_set ?_ GE122.out) | exact HB.out))))
            (case aL => have := LMc26.out; omega)
            intro v145 w35 ho hb hg hat
            rw [← Ny144.out] at ho
            have n0_ := Aside0.mk (blk_grown (g := gb122) (o := .cells #[.int .i64 a0_0, .int .i64 a0_1, .int .u64 a0_2, .slice A0_3 l0_3.length c0_3] 35 (0, 0)) (by (with_reducible repeat (first | refine blk_drewN ?_ _ | refine blk_drew ?_ | refine blk_alloc ?_ _)); exact BK122.out) hg (Kd.R_ne HO143.out BK122.out (by decide)))
            have n1_ := Aside0.mk (Kd.R_after (ok := (fun _ => True)) (by (with_reducible repeat (first | apply Kd.R_alloc | apply Kd.R_drewN | apply Kd.R_drew)); exact HO140.out) hg hat)
            have n2_ := Aside0.mk (hb)
            have n3_ := Aside0.mk (ho)
            clear BK122
            clear HO140
            clear HB
            clear HO143
            have BK122 := n0_
            have HO140 := n1_
            have HB := n2_
            have HO146 := n3_
            clear n0_ n1_ n2_ n3_
            clear ho hb hg hat
            refine hK.out _ _ ⟨(blk_cell BK122.out 0).trans rfl, (blk_cell BK122.out 1).trans rfl, (blk_cell BK122.out 2).trans rfl, (blk_cell BK122.out 3).trans rfl⟩ (fun hHeld => ?_)
            clear hK K
            refine norm_ (a' := ?_) ?_ ?_
            rotate_left
            · show Act.put _ (some 40) _ = _
              simp only [Act.put, List.setIfInBounds_toArray, List.set_cons_zero, List.set_cons_succ, i64_w, i32_w]
              rfl
            refine pure_ (i := 10) (N := some 2) (v := ?_) (a' := ?_) #[true, true, true, true, true, true, true, true, true, true, true] rfl rfl (any_of HT_.out (by kernel_rfl)) (fun _ _ _ h => h) (Or.inl ⟨by rfl, ?_⟩) ?_ ?_
            rotate_left
            · intro w'
              go_simp
              with_reducible rfl
            rotate_left
            · simp only [Act.put, List.setIfInBounds_toArray, List.set_cons_zero, List.set_cons_succ, i64_w, i32_w]
              rfl
            refine done_ (done_of HT_.out (by kernel_rfl)) ?_
            try go_wp2
            go_ret
            exact ⟨_, by first | rfl | (simp [errW_none, errW_some] <;> rfl) | (simp [*, errW_none, errW_some] <;> rfl), by (with_reducible repeat (first | apply Kd.R_alloc | apply Kd.R_drewN | apply Kd.R_drew)); exact Kd.R_mono HO146.out (fun _ hk => trivial), by repeat (first | (with_reducible first | exact HB.out | apply below_alloc | apply pw_below_drewN | apply below_drew1 | refine below_set ?_ GE122.out) | exact HB.out)⟩
          · rw [if_neg c26] at H
            exact absurd H (by simp)
        · rw [if_neg c25] at H
          exact absurd H (by simp)
      · rw [if_neg c23] at H
        have c23b0 : (a0_1 == 2) = false := beq_eq_false_iff_ne.mpr c23
        have c23b1 : (a0_1 != 2) = true := bne_iff_ne.mpr c23
        replace H := Option.bind_eq_some_iff.mp H
        obtain ⟨t147, A360, H⟩ := H
        replace H : (if t123.length + t147.length < 140737488355328 then (some (t123 ++ t147)) else (none)) = some r := H
        have A36 := Aside0.mk A360
        clear A360
        by_cases c37 : t123.length + t147.length < 140737488355328
        · rw [if_pos c37] at H
          have LMc37 := Aside0.mk c37
          clear c37
          obtain ⟨y150, hy150⟩ : ∃ y_ : List Int, y_ = (t123 ++ t147) := ⟨_, rfl⟩
          replace H : (some y150) = some r := by first | (rw [hy150]; with_reducible exact H) | (have H2_ := (Option.bind_some _ _).symm.trans H; rw [hy150]; with_reducible exact H2_) | (have H2_ := (Option.bind_some _ _).symm.trans H; with_reducible exact H2_) | with_reducible exact H | (rw [hy150]; exact H) | exact H
          have Ny150 := Aside0.mk hy150
          clear hy150
          obtain rfl := Option.some.inj H
          go_enter Tryd.func16, Tryd.ntmps16
          go_wp2_with (first | ((with_reducible refine gate_dst (N := 1) rfl ?_); refine box_event ?hg (N := 1) ?hd (cs := #[.int .i64 a0_0, .int .i64 a0_1, .int .u64 a0_2, .slice A0_3 l0_3.length c0_3]) (t := 35) ?hr ?_; (case hd => rfl); (case hg => rfl); (case hr => first | (go_simp; done) | (go_simp; rfl)); intro gb122 hg w38 hbox hb; have n0_ := Aside0.mk (below_step (by repeat (first | (with_reducible first | exact HB.out | apply below_alloc | apply pw_below_drewN | apply below_drew1) | exact HB.out)) hb); have n1_ := Aside0.mk (hbox); have n2_ := Aside0.mk ((by rw [hg]; exact (below_size (by repeat (first | (with_reducible first | exact HB.out | apply below_alloc | apply pw_below_drewN | apply below_drew1) | exact HB.out))) : w.heap.size ≤ gb122)); have n3_ := Aside0.mk ((by rw [hg]; exact (below_size (by repeat (first | (with_reducible first | exact HB.out | apply below_alloc | apply pw_below_drewN | apply below_drew1) | exact HB.out))) : w.heap.size ≤ gb122)); clear HB; have HB := n0_; have BK122 := n1_; have GW122 := n2_; have GE122 := n3_; clear n0_ n1_ n2_ n3_; clear hb hbox hg; have hcz39_0 : w38.cell? ⟨gb122, 0, none⟩ = some (.int .i64 a0_0) := (blk_cell BK122.out 0).trans rfl; have hcz39_1 : w38.cell? ⟨gb122, 1, none⟩ = some (.int .i64 a0_1) := (blk_cell BK122.out 1).trans rfl; have hcz39_2 : w38.cell? ⟨gb122, 2, none⟩ = some (.int .u64 a0_2) := (blk_cell BK122.out 2).trans rfl; have hcz39_3 : w38.cell? ⟨gb122, 3, none⟩ = some (.slice A0_3 l0_3.length c0_3) := (blk_cell BK122.out 3).trans rfl; have hfz39_0 := blk_frozen BK122.out 0; have hfz39_1 := blk_frozen BK122.out 1; have hfz39_2 := blk_frozen BK122.out 2; have hfz39_3 := blk_frozen BK122.out 3) | ((with_reducible refine gate_callee (f := 20) rfl ?_); refine goesL_ (some 12) rfl rfl Tryd.func20 (by kernel_rfl) rfl #[.int .u64 (IntKind.u64.wrap ((IntKind.u64.wrap ((IntKind.u64.wrap (a0_0)) * 8)) + (IntKind.u64.wrap (a0_1))))] rfl (by (try simp only [List.map_toArray, List.map_cons, List.map_nil]); first | done | rfl | (simp only [List.length_drop, List.length_take]; rfl)) ?_; (with_reducible refine (spec_VarintBytes.calls k (IntKind.u64.wrap ((IntKind.u64.wrap ((IntKind.u64.wrap (a0_0)) * 8)) + (IntKind.u64.wrap (a0_1)))) t123 _ A2.out).mono ?_); rintro e w40 ⟨v124, rfl, ho0, hb⟩; refine ⟨_, rfl, ?_⟩; have n0_ := Aside0.mk (Kd.R_lower ho0 (below_size (by repeat (first | (with_reducible first | exact HB.out | apply below_alloc | apply pw_below_drewN | apply below_drew1 | refine below_set ?_ GE122.out) | exact HB.out)))); have n1_ := Aside0.mk (blk_below (g := gb122) (o := .cells #[.int .i64 a0_0, .int .i64 a0_1, .int .u64 a0_2, .slice A0_3 l0_3.length c0_3] 35 (0, 0)) (by (with_reducible repeat (first | refine blk_drewN ?_ _ | refine blk_drew ?_ | refine blk_alloc ?_ _)); exact BK122.out) hb); have n2_ := Aside0.mk (below_step (by repeat (first | (with_reducible first | exact HB.out | apply below_alloc | apply pw_below_drewN | apply below_drew1 | refine below_set ?_ GE122.out) | exact HB.out)) hb); clear BK122; clear HB; have HO125 := n0_; have BK122 := n1_; have HB := n2_; clear n0_ n1_ n2_; (try clear hb); (try clear hb2); (try clear hk); (try clear hi); (try clear ho0); have hcz41_0 : w40.cell? ⟨gb122, 0, none⟩ = some (.int .i64 a0_0) := (blk_cell BK122.out 0).trans rfl; have hcz41_1 : w40.cell? ⟨gb122, 1, none⟩ = some (.int .i64 a0_1) := (blk_cell BK122.out 1).trans rfl; have hcz41_2 : w40.cell? ⟨gb122, 2, none⟩ = some (.int .u64 a0_2) := (blk_cell BK122.out 2).trans rfl; have hcz41_3 : w40.cell? ⟨gb122, 3, none⟩ = some (.slice A0_3 l0_3.length c0_3) := (blk_cell BK122.out 3).trans rfl; have hfz41_0 := blk_frozen BK122.out 0; have hfz41_1 := blk_frozen BK122.out 1; have hfz41_2 := blk_frozen BK122.out 2; have hfz41_3 := blk_frozen BK122.out 3) | ((with_reducible refine gate_callee (f := 38) rfl ?_); refine goesL_ (some 44) rfl rfl Tryd.func38 (by kernel_rfl) rfl #[.int .u64 a0_2, .int .i64 4] rfl (by (try simp only [List.map_toArray, List.map_cons, List.map_nil]); first | done | rfl | (simp only [List.length_drop, List.length_take]; rfl)) ?_; (with_reducible refine (spec_little.calls k a0_2 4 t147 _ A36.out).mono ?_); rintro e w42 ⟨v148, rfl, ho0, hb⟩; refine ⟨_, rfl, ?_⟩; have n0_ := Aside0.mk (Kd.R_elder' (by (with_reducible repeat (first | apply Kd.R_alloc | apply Kd.R_drewN | apply Kd.R_drew)); exact HO125.out) (Kd.R_base ho0) hb); have n1_ := Aside0.mk (Kd.R_lower (Kd.R_new' ho0 (Kd.R_lt (by (with_reducible repeat (first | apply Kd.R_alloc | apply Kd.R_drewN | apply Kd.R_drew)); exact HO125.out))) (below_size (by repeat (first | (with_reducible first | exact HB.out | apply below_alloc | apply pw_below_drewN | apply below_drew1 | refine below_set ?_ GE122.out) | exact HB.out)))); have n2_ := Aside0.mk (blk_below (g := gb122) (o := .cells #[.int .i64 a0_0, .int .i64 a0_1, .int .u64 a0_2, .slice A0_3 l0_3.length c0_3] 35 (0, 0)) (by (with_reducible repeat (first | refine blk_drewN ?_ _ | refine blk_drew ?_ | refine blk_alloc ?_ _)); exact BK122.out) hb); have n3_ := Aside0.mk (below_step (by repeat (first | (with_reducible first | exact HB.out | apply below_alloc | apply pw_below_drewN | apply below_drew1 | refine below_set ?_ GE122.out) | exact HB.out)) hb); clear HO125; clear BK122; clear HB; have HO125 := n0_; have HO149 := n1_; have BK122 := n2_; have HB := n3_; clear n0_ n1_ n2_ n3_; (try clear hb); (try clear hb2); (try clear hk); (try clear hi); (try clear ho0); obtain ⟨Ao44, co44, eo44⟩ := Kd.R_slice HO149.out; subst eo44) | ((with_reducible refine gate_builtin (b := .append) (xs := #[.tmp 41, .tmp 44]) rfl ?_); at_builtin; refine Kd.R_append_rows (Kd.int .u8) (w0 := w) w.heap.size rfl (.tmp 41) (.tmp 44) 22 5 (.int .u8 0) 1 rfl Tryd.underlying22 info5 rfl (by decide) (by omega) v124 t123 t147 _ _ _ (fun k_ => some k_ ≠ (.slice Ao44 t147.length co44 : Value).ownBlock) (fun _ => False) rfl rfl ?aO ?aR (fun _ _ h => h) (fun _ h => h.elim) ?aF ?aB ?aS ?aL ?_; (case aR => repeat (first | exact (Kd.R_reads' HO149.out).2.2 | (with_reducible refine Kd.C_alloc ?_ _) | (with_reducible refine Kd.C_drewN ?_ _) | (with_reducible refine Kd.C_drew ?_))); (case aB => exact (by repeat (first | (with_reducible first | exact HB.out | apply below_alloc | apply pw_below_drewN | apply below_drew1 | refine below_set ?_ GE122.out) | exact HB.out))); (case aF => exact (fun k_ hk => Kd.fresh' (Kd.R_lt (by (with_reducible repeat (first | apply Kd.R_alloc | apply Kd.R_drewN | apply Kd.R_drew)); exact HO149.out)) k_ hk)); (case aO => exact (by (with_reducible repeat (first | apply Kd.R_alloc | apply Kd.R_drewN | apply Kd.R_drew)); exact Kd.R_mono HO125.out (fun _ hk => hk.2))); (case aS => exact (below_size (by repeat (first | (with_reducible first | exact HB.out | apply below_alloc | apply pw_below_drewN | apply below_drew1 | refine below_set ?_ GE122.out) | exact HB.out)))); (case aL => have := LMc37.out; omega); intro v151 w43 ho hb hg hat; rw [← Ny150.out] at ho; have n0_ := Aside0.mk (blk_grown (g := gb122) (o := .cells #[.int .i64 a0_0, .int .i64 a0_1, .int .u64 a0_2, .slice A0_3 l0_3.length c0_3] 35 (0, 0)) (by (with_reducible repeat (first | refine blk_drewN ?_ _ | refine blk_drew ?_ | refine blk_alloc ?_ _)); exact BK122.out) hg (Kd.R_ne HO125.out BK122.out (by decide))); have n1_ := Aside0.mk (Kd.R_after (ok := (fun _ => True)) (by (with_reducible repeat (first | apply Kd.R_alloc | apply Kd.R_drewN | apply Kd.R_drew)); exact HO149.out) hg hat); have n2_ := Aside0.mk (hb); have n3_ := Aside0.mk (ho); clear BK122; clear HO149; clear HB; clear HO125; have BK122 := n0_; have HO149 := n1_; have HB := n2_; have HO152 := n3_; clear n0_ n1_ n2_ n3_; clear ho hb hg hat))
          go_ret
          exact ⟨_, by first | rfl | (simp [errW_none, errW_some] <;> rfl) | (simp [*, errW_none, errW_some] <;> rfl), by (with_reducible repeat (first | apply Kd.R_alloc | apply Kd.R_drewN | apply Kd.R_drew)); exact Kd.R_mono HO152.out (fun _ hk => trivial), by repeat (first | (with_reducible first | exact HB.out | apply below_alloc | apply pw_below_drewN | apply below_drew1 | refine below_set ?_ GE122.out) | exact HB.out)⟩
        · rw [if_neg c37] at H
          exact absurd H (by simp)

-- NOT PRINTED: function 60 (server_protoScanTag)

-- NOT PRINTED: function 51 (server_protoScanBytes)

-- NOT PRINTED: function 67 (errors_New)

-- NOT PRINTED: function 61 (server_protoScanFieldValue)

-- NOT PRINTED: function 53 (server_protoScanField)

-- NOT PRINTED: function 39 (server_ScanField)

/-! ### impl_ProtoField: function 17 -/
-- WORLD YtmfblbjklmgncaaDoor.ProtoFieldW.ErrLaid3
section
open ProtoW ProtoErrW ProtoBytesW ProtoFieldW
def tyOkB (l : List Int) : Bool := match tagV l with | none => true | some r => r.2.1 == 0 || r.2.1 == 1 || r.2.1 == 2 || r.2.1 == 5
theorem tyOk_of {l : List Int} (h : tyOkB l = true) : TyOk l := by
  intro q ty n ht
  unfold tyOkB at h
  rw [ht] at h
  simp only [Bool.or_eq_true, beq_iff_eq] at h
  omega
def impl_ProtoField.f (l0 : List Int) : Option (Int × Int × Int × Int) :=
  if (∀ x ∈ l0, 0 ≤ x ∧ x < 256) ∧ l0.length < 140737488355328 ∧ tyOkB l0 = true then
    (match fieldV l0 with | some r => some (r.1, r.2.1, r.2.2, 0) | none => some (0, 0, 0, 1))
  else none
theorem impl_ProtoField.calls (A0 : Option Addr) (c0 : Nat) (l0 : List Int) (r1 r2 r3 r4 : Int) (w : World) (hr0 : Kd.C (Kd.int .u8) w A0 l0.length l0) (hc0 : l0.length ≤ c0) (h : impl_ProtoField.f l0 = some (r1, r2, r3, r4)) (hE : ErrLaid3 w) :
    Calls Tryd.prog 17 #[.slice A0 l0.length c0] w fun e w' => e = .returned (.tuple #[.int .i64 r1, .int .i64 r2, .int .i64 r3, .int .i64 r4]) ∧ Below w.heap.size w w' := by
  unfold impl_ProtoField.f at h
  split at h
  · rename_i hb
    obtain ⟨hb, hs, hy⟩ := hb
    have hrd := Kd.reads_of_C (enc := Value.int .u8) (d := (0 : Int)) (h1 := fun _ => rfl) hr0
    have h8 : Row8 w A0 c0 l0 := ⟨fun j hj => by
      obtain ⟨ad, e, hc⟩ := hrd.2.2 (by omega)
      refine ⟨ad, e, ?_⟩
      rw [hc j hj]
      simp [List.getD_eq_getElem?_getD, hj], hb, hc0, hs⟩
    cases hf : fieldV l0 with
    | none =>
      rw [hf] at h
      simp only [Option.some.injEq, Prod.mk.injEq] at h
      obtain ⟨rfl, rfl, rfl, rfl⟩ := h
      exact ifield_none A0 c0 l0 w h8 hf (tyOk_of hy) hE
    | some p =>
      rw [hf] at h
      simp only [Option.some.injEq, Prod.mk.injEq] at h
      obtain ⟨rfl, rfl, rfl, rfl⟩ := h
      refine ifield_some A0 c0 l0 p.1 p.2.1 p.2.2 w h8 hf ?_
      have hf' := hf
      unfold fieldV at hf'
      obtain ⟨r, ht, hm⟩ := Option.bind_eq_some_iff.1 hf'
      obtain ⟨m, _, e⟩ := Option.map_eq_some_iff.1 hm
      rw [← e]
      exact tyOk_of hy _ _ _ ht
  · exact absurd h (by simp)
end


end Go.Proofs.YtmfblbjklmgncaaDoor.PFnProtoMessage
