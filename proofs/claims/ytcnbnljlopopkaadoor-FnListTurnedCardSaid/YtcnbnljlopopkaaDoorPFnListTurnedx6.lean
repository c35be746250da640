-- Written by hprint.py (this session's program, over the kit's printing program, with this session's own contracts in it). Not trusted: Lean checks it.
import Derived.Test.YtcnbnljlopopkaaDoorPFnListTurnedx0
import Derived.Test.YtcnbnljlopopkaaDoorPFnListTurnedx1
import Derived.Test.YtcnbnljlopopkaaDoorPFnListTurnedx5
namespace Go.Proofs.YtcnbnljlopopkaaDoor.PFnListTurned
open Go.RowKit Go.Proofs.YtcnbnljlopopkaaDoorW.PrintWords Go.Proofs.YtcnbnljlopopkaaDoorW.PrintLast Go.Proofs.YtcnbnljlopopkaaDoorW.PrintMore
attribute [local go_sem] max2_int min2_int max_two min_two max_three min_three max_four min_four   -- for this text's walks alone
set_option linter.unusedVariables false
set_option linter.unusedSimpArgs false

/-! ### spec_List: function 29 -/
mutual
def spec_List.l0 : Nat → List (S51) → List (S31) → List Int → Int → Option ((List (S31)) × List Int)
 | 0, _, _, _, _ => none
 | k + 1, x0, x4, x5, x6 => if x6 < (x0.length : Int) then (if 0 ≤ x6 then ((spec_place.f k x4 ((rd_T51 x0 x6).f1) ((rd_T51 x0 x6).f2)).bind fun t141 => (if ((rd_T51 x0 x6).f0) = 0 then ((spec_Tokens.f k ((rd_T51 x0 x6).f1)).bind fun t142 => ((spec_Formed.f k t142).bind fun t145 => (spec_List.j1 k x0 x4 x5 x6 t141 1 t145 ((rd_T51 x0 x6).f0) ((rd_T51 x0 x6).f1) ((rd_T51 x0 x6).f2)))) else (spec_List.j1 k x0 x4 x5 x6 t141 1 false ((rd_T51 x0 x6).f0) ((rd_T51 x0 x6).f1) ((rd_T51 x0 x6).f2)))) else (none)) else (some (x4, x5))
def spec_List.j1 : Nat → List (S51) → List (S31) → List Int → Int → Int → Int → Bool → Int → ByteArray → Int → Option ((List (S31)) × List Int)
 | 0, _, _, _, _, _, _, _, _, _, _ => none
 | k + 1, x0, x4, x5, x6, x8, x9, x34, x141000, x141001, x141002 => if x34 = true then (if x8 < 0 then ((some (([] : List (S31)) : List (S31))).bind fun y146 => (if y146.length + x4.length < 5864062014805 then ((some (y146 ++ x4 : List (S31))).bind fun y149 => ((some (([(⟨x141001, x141002⟩ : S31)] : List (S31)) : List (S31))).bind fun y152 => (if y149.length + y152.length < 5864062014805 then ((some (y149 ++ y152 : List (S31))).bind fun y155 => (if x141000 = 1 then (none) else ((some (([0] : List Int) : List Int)).bind fun y187 => (if x5.length + y187.length < 17592186044416 then (spec_List.l0 k x0 y155 (x5 ++ y187) (wrap64 (x6 + 1))) else (none))))) else (none)))) else (none))) else (if x141000 = 1 then (none) else ((some (([0] : List Int) : List Int)).bind fun y222 => (if x5.length + y222.length < 17592186044416 then (spec_List.l0 k x0 x4 (x5 ++ y222) (wrap64 (x6 + 1))) else (none))))) else (if x141000 = 1 then (if x8 ≥ 0 then ((some (([] : List (S31)) : List (S31))).bind fun y228 => (if 0 ≤ x8 then (if x8 ≤ (x4.length : Int) then ((some (x4.take (x8 : Int).toNat : List (S31))).bind fun y231 => (if y228.length + y231.length < 5864062014805 then ((some (y228 ++ y231 : List (S31))).bind fun y235 => (if 0 ≤ (wrap64 (x8 + 1)) then (if (wrap64 (x8 + 1)) ≤ (x4.length : Int) then ((some (x4.drop ((wrap64 (x8 + 1)) : Int).toNat : List (S31))).bind fun y238 => (if y235.length + y238.length < 5864062014805 then ((some (([0] : List Int) : List Int)).bind fun y245 => (if x5.length + y245.length < 17592186044416 then (spec_List.l0 k x0 (y235 ++ y238) (x5 ++ y245) (wrap64 (x6 + 1))) else (none))) else (none))) else (none)) else (none))) else (none))) else (none)) else (none))) else ((some (([x9] : List Int) : List Int)).bind fun y251 => (if x5.length + y251.length < 17592186044416 then (spec_List.l0 k x0 x4 (x5 ++ y251) (wrap64 (x6 + 1))) else (none)))) else ((some (([x9] : List Int) : List Int)).bind fun y257 => (if x5.length + y257.length < 17592186044416 then (spec_List.l0 k x0 x4 (x5 ++ y257) (wrap64 (x6 + 1))) else (none))))
end
def spec_List.f (k : Nat) (l0 : List (S51)) : Option ((List (S31)) × List Int) := spec_List.l0 k l0 ([] : List (S31)) ([] : List Int) 0
theorem spec_List.mono_l : ∀ k, (∀ y0 y1 y2 y3, LeO (spec_List.l0 k y0 y1 y2 y3) (spec_List.l0 (k + 1) y0 y1 y2 y3)) ∧ (∀ y0 y1 y2 y3 y4 y5 y6 y7 y8 y9, LeO (spec_List.j1 k y0 y1 y2 y3 y4 y5 y6 y7 y8 y9) (spec_List.j1 (k + 1) y0 y1 y2 y3 y4 y5 y6 y7 y8 y9))
 | 0 => ⟨fun _ _ _ _ r h => by simp [spec_List.l0] at h, fun _ _ _ _ _ _ _ _ _ _ r h => by simp [spec_List.j1] at h⟩
 | k + 1 => by
  obtain ⟨ih0, ih1⟩ := spec_List.mono_l k
  refine ⟨?_, ?_⟩
  ·
   intro y0 y1 y2 y3
   unfold spec_List.l0
   repeat' first
   | (with_reducible exact ih0 _ _ _ _)
   | (with_reducible exact ih1 _ _ _ _ _ _ _ _ _ _)
   | (with_reducible exact spec_Formed.mono _ _)
   | (with_reducible exact spec_Tokens.mono _ _)
   | (with_reducible exact spec_place.mono _ _ _ _)
   | (with_reducible exact LeO.refl _)
   | (with_reducible exact LeO.none _)
   | (with_reducible refine LeO.ite ?_ ?_)
   | (with_reducible refine LeO.bind ?_ (fun _ => ?_))
   | exact ih0 _ _ _ _
   | exact ih1 _ _ _ _ _ _ _ _ _ _
   | exact spec_Formed.mono _ _
   | exact spec_Tokens.mono _ _
   | exact spec_place.mono _ _ _ _
   | exact LeO.none _
   | refine LeO.ite ?_ ?_
   | refine LeO.bind ?_ (fun _ => ?_)
  ·
   intro y0 y1 y2 y3 y4 y5 y6 y7 y8 y9
   unfold spec_List.j1
   repeat' first
   | (with_reducible exact ih0 _ _ _ _)
   | (with_reducible exact ih1 _ _ _ _ _ _ _ _ _ _)
   | (with_reducible exact spec_Formed.mono _ _)
   | (with_reducible exact spec_Tokens.mono _ _)
   | (with_reducible exact spec_place.mono _ _ _ _)
   | (with_reducible exact LeO.refl _)
   | (with_reducible exact LeO.none _)
   | (with_reducible refine LeO.ite ?_ ?_)
   | (with_reducible refine LeO.bind ?_ (fun _ => ?_))
   | exact ih0 _ _ _ _
   | exact ih1 _ _ _ _ _ _ _ _ _ _
   | exact spec_Formed.mono _ _
   | exact spec_Tokens.mono _ _
   | exact spec_place.mono _ _ _ _
   | exact LeO.none _
   | refine LeO.ite ?_ ?_
   | refine LeO.bind ?_ (fun _ => ?_)
theorem spec_List.mono : ∀ a0 k, LeO (spec_List.f k a0) (spec_List.f (k + 1) a0) := by
 intro a0 k
 obtain ⟨ih0, ih1⟩ := spec_List.mono_l k
 unfold spec_List.f
 repeat' first
   | (with_reducible exact ih0 _ _ _ _)
   | (with_reducible exact ih1 _ _ _ _ _ _ _ _ _ _)
   | (with_reducible exact spec_Formed.mono _ _)
   | (with_reducible exact spec_Tokens.mono _ _)
   | (with_reducible exact spec_place.mono _ _ _ _)
   | (with_reducible exact LeO.refl _)
   | (with_reducible exact LeO.none _)
   | (with_reducible refine LeO.ite ?_ ?_)
   | (with_reducible refine LeO.bind ?_ (fun _ => ?_))
   | exact ih0 _ _ _ _
   | exact ih1 _ _ _ _ _ _ _ _ _ _
   | exact spec_Formed.mono _ _
   | exact spec_Tokens.mono _ _
   | exact spec_place.mono _ _ _ _
   | exact LeO.none _
   | refine LeO.ite ?_ ?_
   | refine LeO.bind ?_ (fun _ => ?_)
def spec_List.T12 : Bool × List (List Nat × List Nat) := (true, [([], []), ([], []), ([0, 1], [0, 1]), ([], []), ([3], [3]), ([], []), ([5], [5]), ([4, 6], [4, 6]), ([7], [7]), ([2, 8, 2], [2, 8]), ([9, 9, 0, 1, 2, 3, 4, 5, 6, 7, 8, 9], [1, 9])])
def spec_List.B12 : List Nat := [0, 0, 3, 0, 8, 0, 32, 120, 248, 511, 1023]
theorem spec_List.tab12 : rtab .any (opsOf Tryd.f29 12) = spec_List.T12 := by kernel_rfl
theorem spec_List.bits12 : waitsOk spec_List.T12.2 spec_List.B12 = true := by kernel_rfl
def spec_List.T15 : Bool × List (List Nat × List Nat) := (true, [([], []), ([], []), ([], []), ([1, 2], [1, 2]), ([0, 3], [0, 3]), ([], []), ([], []), ([6], [6]), ([5, 7], [5, 7]), ([4, 8, 4], [4, 8]), ([9, 9, 0, 1, 2, 3, 4, 5, 6, 7, 8, 9], [1, 5, 9])])
def spec_List.B15 : List Nat := [0, 0, 0, 6, 15, 0, 0, 64, 224, 511, 1023]
theorem spec_List.tab15 : rtab .any (opsOf Tryd.f29 15) = spec_List.T15 := by kernel_rfl
theorem spec_List.bits15 : waitsOk spec_List.T15.2 spec_List.B15 = true := by kernel_rfl
set_option maxHeartbeats 8000000 in
set_option maxRecDepth 100000 in
theorem spec_List.calls (k : Nat) (A0 : Option Addr) (c0 : Nat) (l0 : List (S51)) (r1 : List (S31)) (r2 : List Int) (w : World) (hr0 : Kd.C k51 w A0 l0.length l0) (hc0 : l0.length ≤ c0) (h : spec_List.f k l0 = some (r1, r2)) :
  Calls Tryd.prog 29 #[.slice A0 l0.length c0] w fun e w' => ∃ v0_ v1_ : Value, e = .returned (.tuple #[v0_, v1_]) ∧ Kd.R k31 31 w' w.heap.size (fun _ => True) v0_ r1 ∧ Kd.R (Kd.int .i64) 3 w' w.heap.size (fun _ => True) v1_ r2 ∧ Below w.heap.size w w' := by
 have hu51 := Tryd.underlying51
 have hu31 := Tryd.underlying31
 have HR0 := Aside0.mk hr0
 have HC0 := Aside0.mk hc0
 clear hr0 hc0
 have HB := Aside0.mk (Below.refl w.heap.size w)
 have H : (spec_List.l0 k l0 ([] : List (S31)) ([] : List Int) 0) = some (r1, r2) := h
 clear h
 have H' := Aside0.mk H
 clear H
 go_enter Tryd.func29, Tryd.ntmps29
 go_wp2
 go_loopg [4, 5, 6] k (fun kq v4 v5 v6 w' => ∃ (x4_1 : List (S31)) (x5_1 : List Int) (x6_1 : Int), v6 = .int .i64 x6_1 ∧ Aside0 (spec_List.l0 kq l0 x4_1 x5_1 x6_1 = some (r1, r2)) ∧ Aside0 (kq ≤ k) ∧ Aside0 (Kd.R k31 31 w' w.heap.size (fun _ => True) v4 x4_1) ∧ Aside0 (Kd.R (Kd.int .i64) 3 w' w.heap.size (fun _ => True) v5 x5_1) ∧ Aside0 (Below w.heap.size w w'))
 case atStart => exact ⟨(([] : List (S31))), (([] : List Int)), (0), (by first | rfl | (simp; done) | (simp [*]; done)), H', ⟨Nat.le_refl _⟩, ⟨by first | exact Kd.R_nil _ _ _ _ _ | exact Kd.N_nil _ _ _ _ _ | exact Kd.V_nil _ _ _ _ _ | exact Kd.Q_nil _ _ _ _ _ | exact Kd.S_nil _ _ _ _ _⟩, ⟨by first | exact Kd.R_nil _ _ _ _ _ | exact Kd.N_nil _ _ _ _ _ | exact Kd.V_nil _ _ _ _ _ | exact Kd.Q_nil _ _ _ _ _ | exact Kd.S_nil _ _ _ _ _⟩, ⟨by repeat (first | (with_reducible first | exact HB.out | apply below_alloc | apply pw_below_drewN | apply below_drew1) | exact HB.out)⟩⟩
 case round =>
  clear H'
  obtain ⟨x4_1, x5_1, x6_1, rfl, HA, HK1, HO_4, HO_5, HB⟩ := hrel
  cases gk with
  | zero => exact absurd HA.out (by simp [spec_List.l0])
  | succ k1 =>
   have H := HA.out
   clear HA
   simp only [spec_List.l0] at H
   by_cases c2 : x6_1 < (l0.length : Int)
   ·
    rw [if_pos c2] at H
    have c2b0 : decide (x6_1 < (l0.length : Int)) = true := decide_eq_true c2
    clear c2
    by_cases c3 : 0 ≤ x6_1
    rotate_left
    ·
     rw [if_neg c3] at H
     exact absurd H (by simp)
    rw [if_pos c3] at H
    have c3b0 : decide (0 ≤ x6_1) = true := decide_eq_true c3
    clear c3
    replace H := Option.bind_eq_some_iff.mp H
    obtain ⟨t141, A40, H⟩ := H
    replace H : (if ((rd_T51 l0 x6_1).f0) = 0 then ((spec_Tokens.f k1 ((rd_T51 l0 x6_1).f1)).bind fun t142 => ((spec_Formed.f k1 t142).bind fun t145 => (spec_List.j1 k1 l0 x4_1 x5_1 x6_1 t141 1 t145 ((rd_T51 l0 x6_1).f0) ((rd_T51 l0 x6_1).f1) ((rd_T51 l0 x6_1).f2)))) else (spec_List.j1 k1 l0 x4_1 x5_1 x6_1 t141 1 false ((rd_T51 l0 x6_1).f0) ((rd_T51 l0 x6_1).f1) ((rd_T51 l0 x6_1).f2))) = some (r1, r2) := H
    have A4 := Aside0.mk A40
    clear A40
    have HC5 := Aside0.mk H
    clear H
    have p139 : 0 ≤ (x6_1 : Int) := of_decide_eq_true (by first | (with_reducible assumption) | assumption)
    have q139 : x6_1 < (l0.length : Int) := of_decide_eq_true (by first | (with_reducible assumption) | assumption)
    obtain ⟨ad139, e139, hx139_0, hx139_1, hx139_2⟩ := at_T51 HR0.out x6_1 p139 q139
    cases e139
    replace hx139_0 := (HB.out.cell (World.block_lt_of_cell? w _ hx139_0)).trans hx139_0
    replace hx139_1 := (HB.out.cell (World.block_lt_of_cell? w _ hx139_1)).trans hx139_1
    replace hx139_2 := (HB.out.cell (World.block_lt_of_cell? w _ hx139_2)).trans hx139_2
    replace p139 := eq_true p139
    replace q139 := eq_true q139
    go_upto_region 9 with (first | ((with_reducible refine gate_dst (N := 7) rfl ?_); refine box_event ?hg (N := 7) ?hd (cs := #[.int .i64 0, .string (⟨#[]⟩ : ByteArray), .int .i64 0]) (t := 51) ?hr ?_; (case hd => rfl); (case hg => rfl); (case hr => first | (go_simp; done) | (go_simp; rfl)); intro gb140 hg w6 hbox hb; have n0_ := Aside0.mk (Kd.R_below (by (with_reducible repeat (first | apply Kd.R_alloc | apply Kd.R_drewN | apply Kd.R_drew)); exact HO_4.out) hb); have n1_ := Aside0.mk (Kd.R_below (by (with_reducible repeat (first | apply Kd.R_alloc | apply Kd.R_drewN | apply Kd.R_drew)); exact HO_5.out) hb); have n2_ := Aside0.mk (below_step (by repeat (first | (with_reducible first | exact HB.out | apply below_alloc | apply pw_below_drewN | apply below_drew1) | exact HB.out)) hb); have n3_ := Aside0.mk (hbox); have n4_ := Aside0.mk ((by rw [hg]; exact (below_size (by repeat (first | (with_reducible first | exact HB.out | apply below_alloc | apply pw_below_drewN | apply below_drew1) | exact HB.out))) : w.heap.size ≤ gb140)); have n5_ := Aside0.mk ((by rw [hg]; exact (below_size (by repeat (first | (with_reducible first | exact HB.out | apply below_alloc | apply pw_below_drewN | apply below_drew1) | exact HB.out))) : w.heap.size ≤ gb140)); clear HO_4; clear HO_5; clear HB; have HO_4 := n0_; have HO_5 := n1_; have HB := n2_; have BK140 := n3_; have GW140 := n4_; have GE140 := n5_; clear n0_ n1_ n2_ n3_ n4_ n5_; clear hb hbox hg; have hcz7_0 : w6.cell? ⟨gb140, 0, none⟩ = some (.int .i64 0) := (blk_cell BK140.out 0).trans rfl; have hcz7_1 : w6.cell? ⟨gb140, 1, none⟩ = some (.string (⟨#[]⟩ : ByteArray)) := (blk_cell BK140.out 1).trans rfl; have hcz7_2 : w6.cell? ⟨gb140, 2, none⟩ = some (.int .i64 0) := (blk_cell BK140.out 2).trans rfl; have hfz7_0 := blk_frozen BK140.out 0; have hfz7_1 := blk_frozen BK140.out 1; have hfz7_2 := blk_frozen BK140.out 2; obtain ⟨Ao8, co8, eo8⟩ := Kd.R_slice HO_4.out; subst eo8) | ((with_reducible refine gate_callee (f := 44) rfl ?_); refine goesL_ (some 25) rfl rfl Tryd.func44 (by kernel_rfl) rfl #[.slice Ao8 x4_1.length co8, .string ((rd_T51 l0 x6_1).f1), .int .i64 ((rd_T51 l0 x6_1).f2)] rfl (by (try simp only [List.map_toArray, List.map_cons, List.map_nil]); first | done | rfl | (simp only [List.length_drop, List.length_take]; rfl)) ?_; (with_reducible refine (spec_place.calls k1 _ _ x4_1 ((rd_T51 l0 x6_1).f1) ((rd_T51 l0 x6_1).f2) t141 _ ?side1 ?side2 A4.out).mono ?_); (case side1 => refine (Kd.R_reads' (e := 31) (base := w.heap.size) (ok := fun k_ => True) (n := x4_1.length) (c := co8) ?_).2.2; exact (by (with_reducible repeat (first | apply Kd.R_alloc | apply Kd.R_drewN | apply Kd.R_drew)); exact (Kd.R_mono (Kd.R_far (p := ⟨gb140, 2, none⟩) (Kd.R_far (p := ⟨gb140, 1, none⟩) (Kd.R_far (p := ⟨gb140, 0, none⟩) (Kd.R_types HO_4.out BK140.out (by decide)) (fun _ hk => hk.2) (.int .i64 ((rd_T51 l0 x6_1).f0))) (fun _ hk => hk.2) (.string ((rd_T51 l0 x6_1).f1))) (fun _ hk => hk.2) (.int .i64 ((rd_T51 l0 x6_1).f2))) (fun _ h_ => h_.1)))); (case side2 => exact (Kd.R_reads' HO_4.out).2.1); rintro e w' ⟨rfl, ⟨nd, rfl⟩⟩; refine ⟨_, rfl, ?_⟩))
    (try simp only [Act.put, List.setIfInBounds_toArray, List.set_cons_zero, List.set_cons_succ])
    go_cut [34] (fun v34 wc => ∃ (kq : Nat) (x34_4 : Bool), v34 = .bool x34_4 ∧ Aside0 (spec_List.j1 kq l0 x4_1 x5_1 x6_1 t141 1 x34_4 ((rd_T51 l0 x6_1).f0) ((rd_T51 l0 x6_1).f1) ((rd_T51 l0 x6_1).f2) = some (r1, r2)) ∧ Aside0 (kq ≤ k1) ∧ Aside0 (Kd.R k31 31 wc w.heap.size (fun _ => True) (.slice Ao8 x4_1.length co8) x4_1) ∧ Aside0 (Kd.R (Kd.int .i64) 3 wc w.heap.size (fun _ => True) u5 x5_1) ∧ Aside0 (wc.heap[gb140]? = some (.cells #[.int .i64 ((rd_T51 l0 x6_1).f0), .string ((rd_T51 l0 x6_1).f1), .int .i64 ((rd_T51 l0 x6_1).f2)] 51 (0, 0))) ∧ Aside0 (Below w.heap.size w wc))
    case first =>
     have H := HC5.out
     clear HC5
     by_cases c9 : ((rd_T51 l0 x6_1).f0) = 0
     ·
      rw [if_pos c9] at H
      have c9b0 : (((rd_T51 l0 x6_1).f0) == 0) = true := beq_iff_eq.mpr c9
      have c9b1 : (((rd_T51 l0 x6_1).f0) != 0) = false := bne_eq_false_iff_eq.mpr c9
      clear c9
      (first | rw [c9b0] | (simp only [i64_w, i32_w]; rw [c9b0]) | skip)
      replace H := Option.bind_eq_some_iff.mp H
      obtain ⟨t142, A100, H⟩ := H
      replace H : ((spec_Formed.f k1 t142).bind fun t145 => (spec_List.j1 k1 l0 x4_1 x5_1 x6_1 t141 1 t145 ((rd_T51 l0 x6_1).f0) ((rd_T51 l0 x6_1).f1) ((rd_T51 l0 x6_1).f2))) = some (r1, r2) := H
      have A10 := Aside0.mk A100
      clear A100
      replace H := Option.bind_eq_some_iff.mp H
      obtain ⟨t145, A110, H⟩ := H
      replace H : (spec_List.j1 k1 l0 x4_1 x5_1 x6_1 t141 1 t145 ((rd_T51 l0 x6_1).f0) ((rd_T51 l0 x6_1).f1) ((rd_T51 l0 x6_1).f2)) = some (r1, r2) := H
      have A11 := Aside0.mk A110
      clear A110
      have H' := Aside0.mk H
      clear H
      have hcz12_0 : w6.cell? ⟨gb140, 0, none⟩ = some (.int .i64 0) := (blk_cell BK140.out 0).trans rfl
      have hcz12_1 : w6.cell? ⟨gb140, 1, none⟩ = some (.string (⟨#[]⟩ : ByteArray)) := (blk_cell BK140.out 1).trans rfl
      have hcz12_2 : w6.cell? ⟨gb140, 2, none⟩ = some (.int .i64 0) := (blk_cell BK140.out 2).trans rfl
      have hfz12_0 := blk_frozen BK140.out 0
      have hfz12_1 := blk_frozen BK140.out 1
      have hfz12_2 := blk_frozen BK140.out 2
      go_wp2_with (first | (go_at_call 32; (with_reducible refine (spec_Tokens.calls k1 ((rd_T51 l0 x6_1).f1) t142 _ A10.out).mono ?_); rintro e w13 ⟨v143, rfl, ho0, hb⟩; have n0_ := Aside0.mk (Kd.R_below (by (with_reducible repeat (first | apply Kd.R_alloc | apply Kd.R_drewN | apply Kd.R_drew)); exact (Kd.R_mono (Kd.R_far (p := ⟨gb140, 2, none⟩) (Kd.R_far (p := ⟨gb140, 1, none⟩) (Kd.R_far (p := ⟨gb140, 0, none⟩) (Kd.R_types HO_4.out BK140.out (by decide)) (fun _ hk => hk.2) (.int .i64 ((rd_T51 l0 x6_1).f0))) (fun _ hk => hk.2) (.string ((rd_T51 l0 x6_1).f1))) (fun _ hk => hk.2) (.int .i64 ((rd_T51 l0 x6_1).f2))) (fun _ h_ => h_.1))) hb); have n1_ := Aside0.mk (Kd.R_below (by (with_reducible repeat (first | apply Kd.R_alloc | apply Kd.R_drewN | apply Kd.R_drew)); exact (Kd.R_mono (Kd.R_far (p := ⟨gb140, 2, none⟩) (Kd.R_far (p := ⟨gb140, 1, none⟩) (Kd.R_far (p := ⟨gb140, 0, none⟩) (Kd.R_types HO_5.out BK140.out (by decide)) (fun _ hk => hk.2) (.int .i64 ((rd_T51 l0 x6_1).f0))) (fun _ hk => hk.2) (.string ((rd_T51 l0 x6_1).f1))) (fun _ hk => hk.2) (.int .i64 ((rd_T51 l0 x6_1).f2))) (fun _ h_ => h_.1))) hb); have n2_ := Aside0.mk (Kd.R_lower ho0 (below_size (by repeat (first | (with_reducible first | exact HB.out | apply below_alloc | apply pw_below_drewN | apply below_drew1 | refine below_set ?_ GE140.out) | exact HB.out)))); have n3_ := Aside0.mk (blk_below (g := gb140) (o := .cells #[.int .i64 ((rd_T51 l0 x6_1).f0), .string ((rd_T51 l0 x6_1).f1), .int .i64 ((rd_T51 l0 x6_1).f2)] 51 (0, 0)) (by (with_reducible repeat (first | refine blk_drewN ?_ _ | refine blk_drew ?_ | refine blk_alloc ?_ _)); refine blk_put (cs := #[.int .i64 ((rd_T51 l0 x6_1).f0), .string ((rd_T51 l0 x6_1).f1), .int .i64 0]) ?_ 2 _ rfl; (with_reducible repeat (first | refine blk_drewN ?_ _ | refine blk_drew ?_ | refine blk_alloc ?_ _)); refine blk_put (cs := #[.int .i64 ((rd_T51 l0 x6_1).f0), .string (⟨#[]⟩ : ByteArray), .int .i64 0]) ?_ 1 _ rfl; (with_reducible repeat (first | refine blk_drewN ?_ _ | refine blk_drew ?_ | refine blk_alloc ?_ _)); refine blk_put (cs := #[.int .i64 0, .string (⟨#[]⟩ : ByteArray), .int .i64 0]) ?_ 0 _ rfl; (with_reducible repeat (first | refine blk_drewN ?_ _ | refine blk_drew ?_ | refine blk_alloc ?_ _)); exact BK140.out) hb); have n4_ := Aside0.mk (below_step (by repeat (first | (with_reducible first | exact HB.out | apply below_alloc | apply pw_below_drewN | apply below_drew1 | refine below_set ?_ GE140.out) | exact HB.out)) hb); clear HO_4; clear HO_5; clear BK140; clear HB; have HO_4 := n0_; have HO_5 := n1_; have HO144 := n2_; have BK140 := n3_; have HB := n4_; clear n0_ n1_ n2_ n3_ n4_; (try clear hb); (try clear hb2); (try clear hk); (try clear hi); (try clear ho0); obtain ⟨Ao14, co14, eo14⟩ := Kd.R_slice HO144.out; subst eo14) | (go_at_call 45; (with_reducible refine (spec_Formed.calls k1 _ _ t142 t145 _ ?side1 ?side2 A11.out).mono ?_); (case side1 => repeat (first | exact (Kd.R_reads' HO144.out).2.2 | (with_reducible refine Kd.C_alloc ?_ _) | (with_reducible refine Kd.C_drewN ?_ _) | (with_reducible refine Kd.C_drew ?_))); (case side2 => exact (Kd.R_reads' HO144.out).2.1); rintro e w' ⟨rfl, ⟨nd, rfl⟩⟩))
      go_meet
      case rel => exact ⟨_, (t145), (by first | rfl | (simp; done) | (simp [*]; done)), H', ⟨by have := HK1.out; first | omega | exact Nat.le_refl _⟩, ⟨by (with_reducible repeat (first | apply Kd.R_alloc | apply Kd.R_drewN | apply Kd.R_drew)); exact HO_4.out⟩, ⟨by (with_reducible repeat (first | apply Kd.R_alloc | apply Kd.R_drewN | apply Kd.R_drew)); exact HO_5.out⟩, ⟨by (with_reducible repeat (first | refine blk_drewN ?_ _ | refine blk_drew ?_ | refine blk_alloc ?_ _)); exact BK140.out⟩, ⟨by repeat (first | (with_reducible first | exact HB.out | apply below_alloc | apply pw_below_drewN | apply below_drew1 | refine below_set ?_ GE140.out) | exact HB.out)⟩⟩
     ·
      rw [if_neg c9] at H
      have c9b0 : (((rd_T51 l0 x6_1).f0) == 0) = false := beq_eq_false_iff_ne.mpr c9
      have c9b1 : (((rd_T51 l0 x6_1).f0) != 0) = true := bne_iff_ne.mpr c9
      (first | rw [c9b0] | (simp only [i64_w, i32_w]; rw [c9b0]) | skip)
      have H' := Aside0.mk H
      clear H
      have hcz15_0 : w6.cell? ⟨gb140, 0, none⟩ = some (.int .i64 0) := (blk_cell BK140.out 0).trans rfl
      have hcz15_1 : w6.cell? ⟨gb140, 1, none⟩ = some (.string (⟨#[]⟩ : ByteArray)) := (blk_cell BK140.out 1).trans rfl
      have hcz15_2 : w6.cell? ⟨gb140, 2, none⟩ = some (.int .i64 0) := (blk_cell BK140.out 2).trans rfl
      have hfz15_0 := blk_frozen BK140.out 0
      have hfz15_1 := blk_frozen BK140.out 1
      have hfz15_2 := blk_frozen BK140.out 2
      go_wp2
      go_meet
      case rel => exact ⟨_, (false), (by first | rfl | (simp; done) | (simp [*]; done)), H', ⟨by have := HK1.out; first | omega | exact Nat.le_refl _⟩, ⟨by (with_reducible repeat (first | apply Kd.R_alloc | apply Kd.R_drewN | apply Kd.R_drew)); exact Kd.R_mono (Kd.R_far (p := ⟨gb140, 2, none⟩) (Kd.R_far (p := ⟨gb140, 1, none⟩) (Kd.R_far (p := ⟨gb140, 0, none⟩) (Kd.R_types HO_4.out BK140.out (by decide)) (fun _ hk => hk.2) (.int .i64 ((rd_T51 l0 x6_1).f0))) (fun _ hk => hk.2) (.string ((rd_T51 l0 x6_1).f1))) (fun _ hk => hk.2) (.int .i64 ((rd_T51 l0 x6_1).f2))) (fun _ hk => trivial)⟩, ⟨by (with_reducible repeat (first | apply Kd.R_alloc | apply Kd.R_drewN | apply Kd.R_drew)); exact Kd.R_mono (Kd.R_far (p := ⟨gb140, 2, none⟩) (Kd.R_far (p := ⟨gb140, 1, none⟩) (Kd.R_far (p := ⟨gb140, 0, none⟩) (Kd.R_types HO_5.out BK140.out (by decide)) (fun _ hk => hk.2) (.int .i64 ((rd_T51 l0 x6_1).f0))) (fun _ hk => hk.2) (.string ((rd_T51 l0 x6_1).f1))) (fun _ hk => hk.2) (.int .i64 ((rd_T51 l0 x6_1).f2))) (fun _ hk => trivial)⟩, ⟨by (with_reducible repeat (first | refine blk_drewN ?_ _ | refine blk_drew ?_ | refine blk_alloc ?_ _)); refine blk_put (cs := #[.int .i64 ((rd_T51 l0 x6_1).f0), .string ((rd_T51 l0 x6_1).f1), .int .i64 0]) ?_ 2 _ rfl; (with_reducible repeat (first | refine blk_drewN ?_ _ | refine blk_drew ?_ | refine blk_alloc ?_ _)); refine blk_put (cs := #[.int .i64 ((rd_T51 l0 x6_1).f0), .string (⟨#[]⟩ : ByteArray), .int .i64 0]) ?_ 1 _ rfl; (with_reducible repeat (first | refine blk_drewN ?_ _ | refine blk_drew ?_ | refine blk_alloc ?_ _)); refine blk_put (cs := #[.int .i64 0, .string (⟨#[]⟩ : ByteArray), .int .i64 0]) ?_ 0 _ rfl; (with_reducible repeat (first | refine blk_drewN ?_ _ | refine blk_drew ?_ | refine blk_alloc ?_ _)); exact BK140.out⟩, ⟨by repeat (first | (with_reducible first | exact HB.out | apply below_alloc | apply pw_below_drewN | apply below_drew1 | refine below_set ?_ GE140.out) | exact HB.out)⟩⟩
    case rest =>
     clear HC5
     try clear p1
     try clear q1
     try clear hx1
     try clear c2
     try clear c2b0
     try clear p2
     try clear c3
     try clear c3b0
     try clear c4
     try clear c9
     try clear c9b0
     try clear c9b1
     try clear p13
     try clear q13
     try clear hx13
     try clear hcz12_0
     try clear hcz12_1
     try clear hcz12_2
     try clear hcz15_0
     try clear hcz15_1
     try clear hcz15_2
     try clear hcz7_0
     try clear hcz7_1
     try clear hcz7_2
     try clear hfz12_0
     try clear hfz12_1
     try clear hfz12_2
     try clear hfz15_0
     try clear hfz15_1
     try clear hfz15_2
     try clear hfz7_0
     try clear hfz7_1
     try clear hfz7_2
     try clear hx139_0
     try clear hx139_1
     try clear hx139_2
     try clear p139
     try clear q139
     obtain ⟨kq, x34_4, rfl, HA, HJ4, HO_4, HO_5, BK140, HB⟩ := hcut
     cases kq with
     | zero => exact absurd HA.out (by simp [spec_List.j1])
     | succ kj4 =>
      have H := HA.out
      clear HA
      simp only [spec_List.j1] at H
      by_cases c16 : x34_4 = true
      ·
       subst c16
       have H1 : (if t141 < 0 then ((some (([] : List (S31)) : List (S31))).bind fun y146 => (if y146.length + x4_1.length < 5864062014805 then ((some (y146 ++ x4_1 : List (S31))).bind fun y149 => ((some (([(⟨((rd_T51 l0 x6_1).f1), ((rd_T51 l0 x6_1).f2)⟩ : S31)] : List (S31)) : List (S31))).bind fun y152 => (if y149.length + y152.length < 5864062014805 then ((some (y149 ++ y152 : List (S31))).bind fun y155 => (if ((rd_T51 l0 x6_1).f0) = 1 then (none) else ((some (([0] : List Int) : List Int)).bind fun y187 => (if x5_1.length + y187.length < 17592186044416 then (spec_List.l0 kj4 l0 y155 (x5_1 ++ y187) (wrap64 (x6_1 + 1))) else (none))))) else (none)))) else (none))) else (if ((rd_T51 l0 x6_1).f0) = 1 then (none) else ((some (([0] : List Int) : List Int)).bind fun y222 => (if x5_1.length + y222.length < 17592186044416 then (spec_List.l0 kj4 l0 x4_1 (x5_1 ++ y222) (wrap64 (x6_1 + 1))) else (none))))) = some (r1, r2) := by rw [if_pos rfl] at H; exact H
       clear H
       have H := H1
       clear H1
       by_cases c17 : t141 < 0
       ·
        rw [if_pos c17] at H
        have c17b0 : decide (t141 < 0) = true := decide_eq_true c17
        clear c17
        obtain ⟨y146, hy146⟩ : ∃ y_ : List (S31), y_ = (([] : List (S31))) := ⟨_, rfl⟩
        replace H : (if y146.length + x4_1.length < 5864062014805 then ((some (y146 ++ x4_1 : List (S31))).bind fun y149 => ((some (([(⟨((rd_T51 l0 x6_1).f1), ((rd_T51 l0 x6_1).f2)⟩ : S31)] : List (S31)) : List (S31))).bind fun y152 => (if y149.length + y152.length < 5864062014805 then ((some (y149 ++ y152 : List (S31))).bind fun y155 => (if ((rd_T51 l0 x6_1).f0) = 1 then (none) else ((some (([0] : List Int) : List Int)).bind fun y187 => (if x5_1.length + y187.length < 17592186044416 then (spec_List.l0 kj4 l0 y155 (x5_1 ++ y187) (wrap64 (x6_1 + 1))) else (none))))) else (none)))) else (none)) = some (r1, r2) := by first | (rw [hy146]; with_reducible exact H) | (have H2_ := (Option.bind_some _ _).symm.trans H; rw [hy146]; with_reducible exact H2_) | (have H2_ := (Option.bind_some _ _).symm.trans H; with_reducible exact H2_) | with_reducible exact H | (rw [hy146]; exact H) | exact H
        have Ny146 := Aside0.mk hy146
        clear hy146
        by_cases c18 : y146.length + x4_1.length < 5864062014805
        rotate_left
        ·
         rw [if_neg c18] at H
         exact absurd H (by simp)
        rw [if_pos c18] at H
        have LMc18 := Aside0.mk c18
        clear c18
        obtain ⟨y149, hy149⟩ : ∃ y_ : List (S31), y_ = (y146 ++ x4_1) := ⟨_, rfl⟩
        replace H : ((some (([(⟨((rd_T51 l0 x6_1).f1), ((rd_T51 l0 x6_1).f2)⟩ : S31)] : List (S31)) : List (S31))).bind fun y152 => (if y149.length + y152.length < 5864062014805 then ((some (y149 ++ y152 : List (S31))).bind fun y155 => (if ((rd_T51 l0 x6_1).f0) = 1 then (none) else ((some (([0] : List Int) : List Int)).bind fun y187 => (if x5_1.length + y187.length < 17592186044416 then (spec_List.l0 kj4 l0 y155 (x5_1 ++ y187) (wrap64 (x6_1 + 1))) else (none))))) else (none))) = some (r1, r2) := by first | (rw [hy149]; with_reducible exact H) | (have H2_ := (Option.bind_some _ _).symm.trans H; rw [hy149]; with_reducible exact H2_) | (have H2_ := (Option.bind_some _ _).symm.trans H; with_reducible exact H2_) | with_reducible exact H | (rw [hy149]; exact H) | exact H
        have Ny149 := Aside0.mk hy149
        clear hy149
        obtain ⟨y152, hy152⟩ : ∃ y_ : List (S31), y_ = (([(⟨((rd_T51 l0 x6_1).f1), ((rd_T51 l0 x6_1).f2)⟩ : S31)] : List (S31))) := ⟨_, rfl⟩
        replace H : (if y149.length + y152.length < 5864062014805 then ((some (y149 ++ y152 : List (S31))).bind fun y155 => (if ((rd_T51 l0 x6_1).f0) = 1 then (none) else ((some (([0] : List Int) : List Int)).bind fun y187 => (if x5_1.length + y187.length < 17592186044416 then (spec_List.l0 kj4 l0 y155 (x5_1 ++ y187) (wrap64 (x6_1 + 1))) else (none))))) else (none)) = some (r1, r2) := by first | (rw [hy152]; with_reducible exact H) | (have H2_ := (Option.bind_some _ _).symm.trans H; rw [hy152]; with_reducible exact H2_) | (have H2_ := (Option.bind_some _ _).symm.trans H; with_reducible exact H2_) | with_reducible exact H | (rw [hy152]; exact H) | exact H
        have Ny152 := Aside0.mk hy152
        clear hy152
        by_cases c19 : y149.length + y152.length < 5864062014805
        rotate_left
        ·
         rw [if_neg c19] at H
         exact absurd H (by simp)
        rw [if_pos c19] at H
        have LMc19 := Aside0.mk c19
        clear c19
        obtain ⟨y155, hy155⟩ : ∃ y_ : List (S31), y_ = (y149 ++ y152) := ⟨_, rfl⟩
        replace H : (if ((rd_T51 l0 x6_1).f0) = 1 then (none) else ((some (([0] : List Int) : List Int)).bind fun y187 => (if x5_1.length + y187.length < 17592186044416 then (spec_List.l0 kj4 l0 y155 (x5_1 ++ y187) (wrap64 (x6_1 + 1))) else (none)))) = some (r1, r2) := by first | (rw [hy155]; with_reducible exact H) | (have H2_ := (Option.bind_some _ _).symm.trans H; rw [hy155]; with_reducible exact H2_) | (have H2_ := (Option.bind_some _ _).symm.trans H; with_reducible exact H2_) | with_reducible exact H | (rw [hy155]; exact H) | exact H
        have Ny155 := Aside0.mk hy155
        clear hy155
        by_cases c20 : ((rd_T51 l0 x6_1).f0) = 1
        ·
         rw [if_pos c20] at H
         exact absurd H (by simp)
        ·
         rw [if_neg c20] at H
         have c20b0 : (((rd_T51 l0 x6_1).f0) == 1) = false := beq_eq_false_iff_ne.mpr c20
         have c20b1 : (((rd_T51 l0 x6_1).f0) != 1) = true := bne_iff_ne.mpr c20
         obtain ⟨y187, hy187⟩ : ∃ y_ : List Int, y_ = (([0] : List Int)) := ⟨_, rfl⟩
         replace H : (if x5_1.length + y187.length < 17592186044416 then (spec_List.l0 kj4 l0 y155 (x5_1 ++ y187) (wrap64 (x6_1 + 1))) else (none)) = some (r1, r2) := by first | (rw [hy187]; with_reducible exact H) | (have H2_ := (Option.bind_some _ _).symm.trans H; rw [hy187]; with_reducible exact H2_) | (have H2_ := (Option.bind_some _ _).symm.trans H; with_reducible exact H2_) | with_reducible exact H | (rw [hy187]; exact H) | exact H
         have Ny187 := Aside0.mk hy187
         clear hy187
         by_cases c67 : x5_1.length + y187.length < 17592186044416
         rotate_left
         ·
          rw [if_neg c67] at H
          exact absurd H (by simp)
         rw [if_pos c67] at H
         have LMc67 := Aside0.mk c67
         clear c67
         obtain ⟨y190, hy190⟩ : ∃ y_ : List Int, y_ = (x5_1 ++ y187) := ⟨_, rfl⟩
         replace H : (spec_List.l0 kj4 l0 y155 y190 (wrap64 (x6_1 + 1))) = some (r1, r2) := by first | (rw [hy190]; with_reducible exact H) | (have H2_ := (Option.bind_some _ _).symm.trans H; rw [hy190]; with_reducible exact H2_) | (have H2_ := (Option.bind_some _ _).symm.trans H; with_reducible exact H2_) | with_reducible exact H | (rw [hy190]; exact H) | exact H
         have Ny190 := Aside0.mk hy190
         clear hy190
         have H' := Aside0.mk H
         clear H
         try go_wp2
         have n0_ := Aside0.mk (Kd.R_drew HO_4.out)
         have n1_ := Aside0.mk (Kd.R_drew HO_5.out)
         have n2_ := Aside0.mk (blk_drew BK140.out)
         have n3_ := Aside0.mk (below_drew1 HB.out)
         clear HO_4
         clear HO_5
         clear BK140
         clear HB
         have HO_4 := n0_
         have HO_5 := n1_
         have BK140 := n2_
         have HB := n3_
         clear n0_ n1_ n2_ n3_
         refine start_ (n := 11) (S := fun w' => w'.cell? ⟨gb140, 0, none⟩ = some (.int .i64 ((rd_T51 l0 x6_1).f0)) ∧ w'.cell? ⟨gb140, 1, none⟩ = some (.string ((rd_T51 l0 x6_1).f1)) ∧ w'.cell? ⟨gb140, 2, none⟩ = some (.int .i64 ((rd_T51 l0 x6_1).f2))) (ds := []) #[false, false, false, false, false, false, false, false, false, false, false] (by kernel_rfl) rfl rfl ⟨(blk_cell BK140.out 0).trans rfl, (blk_cell BK140.out 1).trans rfl, (blk_cell BK140.out 2).trans rfl⟩ (fun hHeld => ?_); refine with_tabW spec_List.tab12 spec_List.bits12 (fun HT_ HW_ => ?_)
         generalize wc.drew = w68 at HO_4 HO_5 BK140 HB hHeld ⊢
         refine pure_ (i := 1) (N := some 38) (v := ?_) (a' := ?_) #[false, true, false, false, false, false, false, false, false, false, false] rfl rfl (any_of HT_.out (by kernel_rfl)) (fun _ _ _ h => h) (Or.inl ⟨by rfl, ?_⟩) ?_ ?_
         rotate_left
         ·
          intro w'
          go_simp
          with_reducible rfl
         rotate_left
         ·
          simp only [Act.put, List.setIfInBounds_toArray, List.set_cons_zero, List.set_cons_succ, i64_w, i32_w]
          rfl
         refine pure_ (i := 3) (N := some 40) (v := ?_) (a' := ?_) #[false, true, false, true, false, false, false, false, false, false, false] rfl rfl (any_of HT_.out (by kernel_rfl)) (fun _ _ _ h => h) (Or.inl ⟨by rfl, ?_⟩) ?_ ?_
         rotate_left
         ·
          intro w'
          go_simp
          with_reducible rfl
         rotate_left
         ·
          simp only [Act.put, List.setIfInBounds_toArray, List.set_cons_zero, List.set_cons_succ, i64_w, i32_w]
          rfl
         refine pure_ (i := 5) (N := some 42) (v := ?_) (a' := ?_) #[false, true, false, true, false, true, false, false, false, false, false] rfl rfl (any_of HT_.out (by kernel_rfl)) (fun _ _ _ h => h) (Or.inl ⟨by rfl, ?_⟩) ?_ ?_
         rotate_left
         ·
          intro w'
          go_simp
          with_reducible rfl
         rotate_left
         ·
          simp only [Act.put, List.setIfInBounds_toArray, List.set_cons_zero, List.set_cons_succ, i64_w, i32_w]
          rfl
         refine take_ (i := 4) (N := some 41) (v := ?_) (a' := ?_) #[false, true, false, true, true, true, false, false, false, false, false] rfl rfl (take_ofW HT_.out HW_.out (by kernel_rfl)) (fun _ _ _ h => h) (Or.inl ⟨by rfl, ?_⟩) hHeld ?_ ?_
         rotate_left
         ·
          rintro w' ⟨s0, s1, s2⟩
          go_simp
          with_reducible rfl
         rotate_left
         ·
          simp only [Act.put, List.setIfInBounds_toArray, List.set_cons_zero, List.set_cons_succ, i64_w, i32_w]
          rfl
         refine take_ (i := 6) (N := some 43) (v := ?_) (a' := ?_) #[false, true, false, true, true, true, true, false, false, false, false] rfl rfl (take_ofW HT_.out HW_.out (by kernel_rfl)) (fun _ _ _ h => h) (Or.inl ⟨by rfl, ?_⟩) hHeld ?_ ?_
         rotate_left
         ·
          rintro w' ⟨s0, s1, s2⟩
          go_simp
          with_reducible rfl
         rotate_left
         ·
          simp only [Act.put, List.setIfInBounds_toArray, List.set_cons_zero, List.set_cons_succ, i64_w, i32_w]
          rfl
         refine pure_ (i := 7) (N := some 44) (v := ?_) (a' := ?_) #[false, true, false, true, true, true, true, true, false, false, false] rfl rfl (any_of HT_.out (by kernel_rfl)) (fun _ _ _ h => h) (Or.inl ⟨by rfl, ?_⟩) ?_ ?_
         rotate_left
         ·
          intro w'
          go_simp
          with_reducible rfl
         rotate_left
         ·
          simp only [Act.put, List.setIfInBounds_toArray, List.set_cons_zero, List.set_cons_succ, i64_w, i32_w]
          rfl
         refine join_ (σ := Value × Value × Value) 2 #[true, true, true, true, true, true, true, true, true, false, false] (fun s_ => [(37, s_.1), (39, s_.2.1), (45, s_.2.2)]) (fun s_ w' => (w'.cell? ⟨gb140, 0, none⟩ = some (.int .i64 ((rd_T51 l0 x6_1).f0)) ∧ w'.cell? ⟨gb140, 1, none⟩ = some (.string ((rd_T51 l0 x6_1).f1)) ∧ w'.cell? ⟨gb140, 2, none⟩ = some (.int .i64 ((rd_T51 l0 x6_1).f2))) ∧ (Kd.R k31 31 w' w.heap.size (fun k_ => some k_ ≠ (s_.2.2 : Value).ownBlock ∧ some k_ ≠ (.slice Ao8 x4_1.length co8 : Value).ownBlock) s_.2.1 y149) ∧ (Kd.R k31 31 w' w.heap.size (fun k_ => some k_ ≠ (s_.2.1 : Value).ownBlock ∧ some k_ ≠ (.slice Ao8 x4_1.length co8 : Value).ownBlock) s_.2.2 y152) ∧ (Kd.R k31 31 w' w.heap.size (fun k_ => some k_ ≠ (s_.2.1 : Value).ownBlock ∧ some k_ ≠ (s_.2.2 : Value).ownBlock) (.slice Ao8 x4_1.length co8) x4_1) ∧ (Kd.R (Kd.int .i64) 3 w' w.heap.size (fun _ => True) u5 x5_1) ∧ (w'.heap[gb140]? = some (.cells #[.int .i64 ((rd_T51 l0 x6_1).f0), .string ((rd_T51 l0 x6_1).f1), .int .i64 ((rd_T51 l0 x6_1).f2)] 51 (0, 0))) ∧ (Below w.heap.size w w')) ?_ ?_
         rotate_left
         ·
          intro hCont
          refine two_ (i := 0) (j := 8) (Ni := some 37) (Nj := some 45) #[true, true, false, true, true, true, true, true, false, false, false] #[false, true, false, true, true, true, true, true, true, false, false] rfl rfl rfl rfl (two_of HT_.out (by kernel_rfl)) (by decide) (by decide) (fun K hK => ?_) (fun K hK => ?_)
          ·
           skip
           refine Kd.R_lit_step k31 _ 31 ?hg (N := 37) ?hd (xs := ([] : List (S31))) (inner := []) (ok := fun _ => True) (okp := fun _ => True) ?hr ?hp (fun _ hk => hk) trivial (Below.refl _ _) (Nat.le_refl _) (by simp) ?_; (case hd => rfl); (case hg => rfl); (case hr => first | (go_simp; done) | (go_simp; rfl)); (case hp => exact (Reps.none _ _))
           intro v147 w69 ho70 hb hg_ hnew_
           clear hg_ hnew_
           (first | rw [← Ny146.out] at ho70 | (simp only [Int.reduceToNat] at ho70; rw [← Ny146.out] at ho70))
           have n0_ := Aside0.mk (Kd.R_elder' (by (with_reducible repeat (first | apply Kd.R_alloc | apply Kd.R_drewN | apply Kd.R_drew)); exact HO_4.out) (Kd.R_base ho70) hb)
           have n1_ := Aside0.mk (Kd.R_below (by (with_reducible repeat (first | apply Kd.R_alloc | apply Kd.R_drewN | apply Kd.R_drew)); exact HO_5.out) hb)
           have n2_ := Aside0.mk (Kd.R_lower (Kd.R_new' ho70 (Kd.R_lt (by (with_reducible repeat (first | apply Kd.R_alloc | apply Kd.R_drewN | apply Kd.R_drew)); exact HO_4.out))) (below_size (by repeat (first | (with_reducible first | exact HB.out | apply below_alloc | apply pw_below_drewN | apply below_drew1 | refine below_set ?_ GE140.out) | exact HB.out))))
           have n3_ := Aside0.mk (blk_below (g := gb140) (o := .cells #[.int .i64 ((rd_T51 l0 x6_1).f0), .string ((rd_T51 l0 x6_1).f1), .int .i64 ((rd_T51 l0 x6_1).f2)] 51 (0, 0)) (by (with_reducible repeat (first | refine blk_drewN ?_ _ | refine blk_drew ?_ | refine blk_alloc ?_ _)); exact BK140.out) hb)
           have n4_ := Aside0.mk (below_step (by repeat (first | (with_reducible first | exact HB.out | apply below_alloc | apply pw_below_drewN | apply below_drew1 | refine below_set ?_ GE140.out) | exact HB.out)) hb)
           clear HO_4
           clear HO_5
           clear BK140
           clear HB
           have HO_4 := n0_
           have HO_5 := n1_
           have HO148 := n2_
           have BK140 := n3_
           have HB := n4_
           clear n0_ n1_ n2_ n3_ n4_
           clear hb ho70
           refine hK.out _ _ ⟨(blk_cell BK140.out 0).trans rfl, (blk_cell BK140.out 1).trans rfl, (blk_cell BK140.out 2).trans rfl⟩ (fun hHeld => ?_)
           clear hK K
           refine norm_ (a' := ?_) ?_ ?_
           rotate_left
           ·
            show Act.put _ (some 37) _ = _
            simp only [Act.put, List.setIfInBounds_toArray, List.set_cons_zero, List.set_cons_succ, i64_w, i32_w]
            rfl
           refine two_ (i := 2) (j := 8) (Ni := some 39) (Nj := some 45) #[true, true, true, true, true, true, true, true, false, false, false] #[true, true, false, true, true, true, true, true, true, false, false] rfl rfl rfl rfl (two_of HT_.out (by kernel_rfl)) (by decide) (by decide) (fun K hK => ?_) (fun K hK => ?_)
           ·
            skip
            refine Kd.R_append_rows_step k31 (w0 := w) w.heap.size (by rfl) (.tmp 37) (.tmp 38) 25 31 (.agg #[(.string ⟨#[]⟩), (.int .i64 0)]) 24 rfl Tryd.underlying25 info31 rfl (by decide) (by omega) v147 y146 x4_1 _ _ _ (fun k_ => some k_ ≠ (.slice Ao8 x4_1.length co8 : Value).ownBlock) (fun _ => False) rfl rfl ?aO ?aR (fun _ _ h => h) (fun _ h => h.elim) ?aF ?aB ?aS ?aL ?_
            (case aR => repeat (first | exact (Kd.R_reads' HO_4.out).2.2 | (with_reducible refine Kd.C_alloc ?_ _) | (with_reducible refine Kd.C_drewN ?_ _) | (with_reducible refine Kd.C_drew ?_)))
            (case aB => exact (by repeat (first | (with_reducible first | exact HB.out | apply below_alloc | apply pw_below_drewN | apply below_drew1 | refine below_set ?_ GE140.out) | exact HB.out)))
            (case aF => exact (fun k_ hk => Kd.fresh' (Kd.R_lt (by (with_reducible repeat (first | apply Kd.R_alloc | apply Kd.R_drewN | apply Kd.R_drew)); exact HO_4.out)) k_ hk))
            (case aO => exact (by (with_reducible repeat (first | apply Kd.R_alloc | apply Kd.R_drewN | apply Kd.R_drew)); exact Kd.R_mono HO148.out (fun _ hk => hk.2)))
            (case aS => exact (below_size (by repeat (first | (with_reducible first | exact HB.out | apply below_alloc | apply pw_below_drewN | apply below_drew1 | refine below_set ?_ GE140.out) | exact HB.out))))
            (case aL => have := LMc18.out; omega)
            intro v150 w71 ho hb hg hat
            rw [← Ny149.out] at ho
            have n0_ := Aside0.mk (Kd.R_after (ok := (fun _ => True)) (by (with_reducible repeat (first | apply Kd.R_alloc | apply Kd.R_drewN | apply Kd.R_drew)); exact HO_4.out) hg hat)
            have n1_ := Aside0.mk (Kd.R_over' (by (with_reducible repeat (first | apply Kd.R_alloc | apply Kd.R_drewN | apply Kd.R_drew)); exact HO_5.out) (Kd.R_typed (by (with_reducible repeat (first | apply Kd.R_alloc | apply Kd.R_drewN | apply Kd.R_drew)); exact HO148.out)) (by decide) hg)
            have n2_ := Aside0.mk (blk_grown (g := gb140) (o := .cells #[.int .i64 ((rd_T51 l0 x6_1).f0), .string ((rd_T51 l0 x6_1).f1), .int .i64 ((rd_T51 l0 x6_1).f2)] 51 (0, 0)) (by (with_reducible repeat (first | refine blk_drewN ?_ _ | refine blk_drew ?_ | refine blk_alloc ?_ _)); exact BK140.out) hg (Kd.R_ne HO148.out BK140.out (by decide)))
            have n3_ := Aside0.mk (hb)
            have n4_ := Aside0.mk (ho)
            clear HO_4
            clear HO_5
            clear BK140
            clear HB
            clear HO148
            have HO_4 := n0_
            have HO_5 := n1_
            have BK140 := n2_
            have HB := n3_
            have HO151 := n4_
            clear n0_ n1_ n2_ n3_ n4_
            clear ho hb hg hat
            refine hK.out _ _ ⟨(blk_cell BK140.out 0).trans rfl, (blk_cell BK140.out 1).trans rfl, (blk_cell BK140.out 2).trans rfl⟩ (fun hHeld => ?_)
            clear hK K
            refine norm_ (a' := ?_) ?_ ?_
            rotate_left
            ·
             show Act.put _ (some 39) _ = _
             simp only [Act.put, List.setIfInBounds_toArray, List.set_cons_zero, List.set_cons_succ, i64_w, i32_w]
             rfl
            refine one_ (i := 8) (N := some 45) #[true, true, true, true, true, true, true, true, true, false, false] rfl rfl (one_of HT_.out (by kernel_rfl)) (by decide) (fun K hK => ?_)
            refine Kd.R_lit_step k31 _ 31 ?hg (N := 45) ?hd (xs := ([(⟨((rd_T51 l0 x6_1).f1), ((rd_T51 l0 x6_1).f2)⟩ : S31)] : List (S31))) (inner := [.string ((rd_T51 l0 x6_1).f1), .int .i64 ((rd_T51 l0 x6_1).f2)]) (ok := fun _ => True) (okp := fun _ => True) ?hr ?hp (fun _ hk => hk) trivial (Below.refl _ _) (Nat.le_refl _) (by simp) ?_; (case hd => rfl); (case hg => rfl); (case hr => first | (go_simp; done) | (go_simp; rfl)); (case hp => exact (Reps.c2 (show Kd.M k31 _ _ _ (⟨((rd_T51 l0 x6_1).f1), ((rd_T51 l0 x6_1).f2)⟩ : S31) [.string ((rd_T51 l0 x6_1).f1), .int .i64 ((rd_T51 l0 x6_1).f2)] from (k31_mkM _ _ _ (⟨((rd_T51 l0 x6_1).f1), ((rd_T51 l0 x6_1).f2)⟩ : S31) )) (Reps.none _ _)))
            intro v153 w72 ho73 hb hg_ hnew_
            clear hg_ hnew_
            (first | rw [← Ny152.out] at ho73 | (simp only [Int.reduceToNat] at ho73; rw [← Ny152.out] at ho73))
            have n0_ := Aside0.mk (Kd.R_elder' (by (with_reducible repeat (first | apply Kd.R_alloc | apply Kd.R_drewN | apply Kd.R_drew)); exact HO_4.out) (Kd.R_base ho73) hb)
            have n1_ := Aside0.mk (Kd.R_below (by (with_reducible repeat (first | apply Kd.R_alloc | apply Kd.R_drewN | apply Kd.R_drew)); exact HO_5.out) hb)
            have n2_ := Aside0.mk (Kd.R_elder' (by (with_reducible repeat (first | apply Kd.R_alloc | apply Kd.R_drewN | apply Kd.R_drew)); exact HO151.out) (Kd.R_base ho73) hb)
            have n3_ := Aside0.mk (Kd.R_lower (Kd.R_new' (Kd.R_new' ho73 (Kd.R_lt (by (with_reducible repeat (first | apply Kd.R_alloc | apply Kd.R_drewN | apply Kd.R_drew)); exact HO_4.out))) (Kd.R_lt (by (with_reducible repeat (first | apply Kd.R_alloc | apply Kd.R_drewN | apply Kd.R_drew)); exact HO151.out))) (below_size (by repeat (first | (with_reducible first | exact HB.out | apply below_alloc | apply pw_below_drewN | apply below_drew1 | refine below_set ?_ GE140.out) | exact HB.out))))
            have n4_ := Aside0.mk (blk_below (g := gb140) (o := .cells #[.int .i64 ((rd_T51 l0 x6_1).f0), .string ((rd_T51 l0 x6_1).f1), .int .i64 ((rd_T51 l0 x6_1).f2)] 51 (0, 0)) (by (with_reducible repeat (first | refine blk_drewN ?_ _ | refine blk_drew ?_ | refine blk_alloc ?_ _)); exact BK140.out) hb)
            have n5_ := Aside0.mk (below_step (by repeat (first | (with_reducible first | exact HB.out | apply below_alloc | apply pw_below_drewN | apply below_drew1 | refine below_set ?_ GE140.out) | exact HB.out)) hb)
            clear HO_4
            clear HO_5
            clear HO151
            clear BK140
            clear HB
            have HO_4 := n0_
            have HO_5 := n1_
            have HO151 := n2_
            have HO154 := n3_
            have BK140 := n4_
            have HB := n5_
            clear n0_ n1_ n2_ n3_ n4_ n5_
            clear hb ho73
            refine hK.out _ _ ⟨(blk_cell BK140.out 0).trans rfl, (blk_cell BK140.out 1).trans rfl, (blk_cell BK140.out 2).trans rfl⟩ (fun hHeld => ?_)
            clear hK K
            refine norm_ (a' := ?_) ?_ ?_
            rotate_left
            ·
             show Act.put _ (some 45) _ = _
             simp only [Act.put, List.setIfInBounds_toArray, List.set_cons_zero, List.set_cons_succ, i64_w, i32_w]
             rfl
            exact norm_ (by simp only [putAll, Act.put, List.setIfInBounds_toArray, List.set_cons_zero, List.set_cons_succ]) (hCont (v147, v150, v153) _ ⟨hHeld, (by (with_reducible repeat (first | apply Kd.R_alloc | apply Kd.R_drewN | apply Kd.R_drew)); exact Kd.R_mono HO151.out (fun _ hk => ⟨hk.2, hk.1⟩)), (by (with_reducible repeat (first | apply Kd.R_alloc | apply Kd.R_drewN | apply Kd.R_drew)); exact Kd.R_mono HO154.out (fun _ hk => ⟨hk.2, hk.1.2⟩)), (by (with_reducible repeat (first | apply Kd.R_alloc | apply Kd.R_drewN | apply Kd.R_drew)); exact Kd.R_mono HO_4.out (fun _ hk => ⟨hk.1.2, hk.2⟩)), (by (with_reducible repeat (first | apply Kd.R_alloc | apply Kd.R_drewN | apply Kd.R_drew)); exact HO_5.out), (by (with_reducible repeat (first | refine blk_drewN ?_ _ | refine blk_drew ?_ | refine blk_alloc ?_ _)); exact BK140.out), (by repeat (first | (with_reducible first | exact HB.out | apply below_alloc | apply pw_below_drewN | apply below_drew1 | refine below_set ?_ GE140.out) | exact HB.out))⟩)
           ·
            skip
            refine Kd.R_lit_step k31 _ 31 ?hg (N := 45) ?hd (xs := ([(⟨((rd_T51 l0 x6_1).f1), ((rd_T51 l0 x6_1).f2)⟩ : S31)] : List (S31))) (inner := [.string ((rd_T51 l0 x6_1).f1), .int .i64 ((rd_T51 l0 x6_1).f2)]) (ok := fun _ => True) (okp := fun _ => True) ?hr ?hp (fun _ hk => hk) trivial (Below.refl _ _) (Nat.le_refl _) (by simp) ?_; (case hd => rfl); (case hg => rfl); (case hr => first | (go_simp; done) | (go_simp; rfl)); (case hp => exact (Reps.c2 (show Kd.M k31 _ _ _ (⟨((rd_T51 l0 x6_1).f1), ((rd_T51 l0 x6_1).f2)⟩ : S31) [.string ((rd_T51 l0 x6_1).f1), .int .i64 ((rd_T51 l0 x6_1).f2)] from (k31_mkM _ _ _ (⟨((rd_T51 l0 x6_1).f1), ((rd_T51 l0 x6_1).f2)⟩ : S31) )) (Reps.none _ _)))
            intro v153 w71 ho72 hb hg_ hnew_
            clear hg_ hnew_
            (first | rw [← Ny152.out] at ho72 | (simp only [Int.reduceToNat] at ho72; rw [← Ny152.out] at ho72))
            have n0_ := Aside0.mk (Kd.R_elder' (by (with_reducible repeat (first | apply Kd.R_alloc | apply Kd.R_drewN | apply Kd.R_drew)); exact HO_4.out) (Kd.R_base ho72) hb)
            have n1_ := Aside0.mk (Kd.R_below (by (with_reducible repeat (first | apply Kd.R_alloc | apply Kd.R_drewN | apply Kd.R_drew)); exact HO_5.out) hb)
            have n2_ := Aside0.mk (Kd.R_elder' (by (with_reducible repeat (first | apply Kd.R_alloc | apply Kd.R_drewN | apply Kd.R_drew)); exact HO148.out) (Kd.R_base ho72) hb)
            have n3_ := Aside0.mk (Kd.R_lower (Kd.R_new' (Kd.R_new' ho72 (Kd.R_lt (by (with_reducible repeat (first | apply Kd.R_alloc | apply Kd.R_drewN | apply Kd.R_drew)); exact HO_4.out))) (Kd.R_lt (by (with_reducible repeat (first | apply Kd.R_alloc | apply Kd.R_drewN | apply Kd.R_drew)); exact HO148.out))) (below_size (by repeat (first | (with_reducible first | exact HB.out | apply below_alloc | apply pw_below_drewN | apply below_drew1 | refine below_set ?_ GE140.out) | exact HB.out))))
            have n4_ := Aside0.mk (blk_below (g := gb140) (o := .cells #[.int .i64 ((rd_T51 l0 x6_1).f0), .string ((rd_T51 l0 x6_1).f1), .int .i64 ((rd_T51 l0 x6_1).f2)] 51 (0, 0)) (by (with_reducible repeat (first | refine blk_drewN ?_ _ | refine blk_drew ?_ | refine blk_alloc ?_ _)); exact BK140.out) hb)
            have n5_ := Aside0.mk (below_step (by repeat (first | (with_reducible first | exact HB.out | apply below_alloc | apply pw_below_drewN | apply below_drew1 | refine below_set ?_ GE140.out) | exact HB.out)) hb)
            clear HO_4
            clear HO_5
            clear HO148
            clear BK140
            clear HB
            have HO_4 := n0_
            have HO_5 := n1_
            have HO148 := n2_
            have HO154 := n3_
            have BK140 := n4_
            have HB := n5_
            clear n0_ n1_ n2_ n3_ n4_ n5_
            clear hb ho72
            refine hK.out _ _ ⟨(blk_cell BK140.out 0).trans rfl, (blk_cell BK140.out 1).trans rfl, (blk_cell BK140.out 2).trans rfl⟩ (fun hHeld => ?_)
            clear hK K
            refine norm_ (a' := ?_) ?_ ?_
            rotate_left
            ·
             show Act.put _ (some 45) _ = _
             simp only [Act.put, List.setIfInBounds_toArray, List.set_cons_zero, List.set_cons_succ, i64_w, i32_w]
             rfl
            refine one_ (i := 2) (N := some 39) #[true, true, true, true, true, true, true, true, true, false, false] rfl rfl (one_of HT_.out (by kernel_rfl)) (by decide) (fun K hK => ?_)
            refine Kd.R_append_rows_step k31 (w0 := w) w.heap.size (by rfl) (.tmp 37) (.tmp 38) 25 31 (.agg #[(.string ⟨#[]⟩), (.int .i64 0)]) 24 rfl Tryd.underlying25 info31 rfl (by decide) (by omega) v147 y146 x4_1 _ _ _ (fun k_ => some k_ ≠ (.slice Ao8 x4_1.length co8 : Value).ownBlock ∧ some k_ ≠ (v153 : Value).ownBlock) (fun _ => False) rfl rfl ?aO ?aR (fun _ _ h => h) (fun _ h => h.elim) ?aF ?aB ?aS ?aL ?_
            (case aR => repeat (first | exact (Kd.R_reads' HO_4.out).2.2 | (with_reducible refine Kd.C_alloc ?_ _) | (with_reducible refine Kd.C_drewN ?_ _) | (with_reducible refine Kd.C_drew ?_)))
            (case aB => exact (by repeat (first | (with_reducible first | exact HB.out | apply below_alloc | apply pw_below_drewN | apply below_drew1 | refine below_set ?_ GE140.out) | exact HB.out)))
            (case aF => exact (fun k_ hk => ⟨Kd.fresh' (Kd.R_lt (by (with_reducible repeat (first | apply Kd.R_alloc | apply Kd.R_drewN | apply Kd.R_drew)); exact HO_4.out)) k_ hk, Kd.fresh' (Kd.R_lt (by (with_reducible repeat (first | apply Kd.R_alloc | apply Kd.R_drewN | apply Kd.R_drew)); exact HO154.out)) k_ hk⟩))
            (case aO => exact (by (with_reducible repeat (first | apply Kd.R_alloc | apply Kd.R_drewN | apply Kd.R_drew)); exact Kd.R_mono HO148.out (fun _ hk => ⟨hk.1.2, hk.2⟩)))
            (case aS => exact (below_size (by repeat (first | (with_reducible first | exact HB.out | apply below_alloc | apply pw_below_drewN | apply below_drew1 | refine below_set ?_ GE140.out) | exact HB.out))))
            (case aL => have := LMc18.out; omega)
            intro v150 w73 ho hb hg hat
            rw [← Ny149.out] at ho
            have n0_ := Aside0.mk (Kd.R_after (ok := (fun k_ => some k_ ≠ (v153 : Value).ownBlock)) (by (with_reducible repeat (first | apply Kd.R_alloc | apply Kd.R_drewN | apply Kd.R_drew)); exact Kd.R_mono HO_4.out (fun _ hk => ⟨hk.2, hk.1.2⟩)) hg hat)
            have n1_ := Aside0.mk (Kd.R_over' (by (with_reducible repeat (first | apply Kd.R_alloc | apply Kd.R_drewN | apply Kd.R_drew)); exact HO_5.out) (Kd.R_typed (by (with_reducible repeat (first | apply Kd.R_alloc | apply Kd.R_drewN | apply Kd.R_drew)); exact HO148.out)) (by decide) hg)
            have n2_ := Aside0.mk (blk_grown (g := gb140) (o := .cells #[.int .i64 ((rd_T51 l0 x6_1).f0), .string ((rd_T51 l0 x6_1).f1), .int .i64 ((rd_T51 l0 x6_1).f2)] 51 (0, 0)) (by (with_reducible repeat (first | refine blk_drewN ?_ _ | refine blk_drew ?_ | refine blk_alloc ?_ _)); exact BK140.out) hg (Kd.R_ne HO148.out BK140.out (by decide)))
            have n3_ := Aside0.mk (Kd.R_after (ok := (fun k_ => some k_ ≠ (.slice Ao8 x4_1.length co8 : Value).ownBlock)) (by (with_reducible repeat (first | apply Kd.R_alloc | apply Kd.R_drewN | apply Kd.R_drew)); exact Kd.R_mono HO154.out (fun _ hk => ⟨hk.1.2, hk.2⟩)) hg hat)
            have n4_ := Aside0.mk (hb)
            have n5_ := Aside0.mk (ho)
            clear HO_4
            clear HO_5
            clear BK140
            clear HO154
            clear HB
            clear HO148
            have HO_4 := n0_
            have HO_5 := n1_
            have BK140 := n2_
            have HO154 := n3_
            have HB := n4_
            have HO151 := n5_
            clear n0_ n1_ n2_ n3_ n4_ n5_
            clear ho hb hg hat
            refine hK.out _ _ ⟨(blk_cell BK140.out 0).trans rfl, (blk_cell BK140.out 1).trans rfl, (blk_cell BK140.out 2).trans rfl⟩ (fun hHeld => ?_)
            clear hK K
            refine norm_ (a' := ?_) ?_ ?_
            rotate_left
            ·
             show Act.put _ (some 39) _ = _
             simp only [Act.put, List.setIfInBounds_toArray, List.set_cons_zero, List.set_cons_succ, i64_w, i32_w]
             rfl
            exact norm_ (by simp only [putAll, Act.put, List.setIfInBounds_toArray, List.set_cons_zero, List.set_cons_succ]) (hCont (v147, v150, v153) _ ⟨hHeld, (by (with_reducible repeat (first | apply Kd.R_alloc | apply Kd.R_drewN | apply Kd.R_drew)); exact Kd.R_mono HO151.out (fun _ hk => ⟨hk.2, hk.1⟩)), (by (with_reducible repeat (first | apply Kd.R_alloc | apply Kd.R_drewN | apply Kd.R_drew)); exact Kd.R_mono HO154.out (fun _ hk => ⟨hk.2, hk.1⟩)), (by (with_reducible repeat (first | apply Kd.R_alloc | apply Kd.R_drewN | apply Kd.R_drew)); exact Kd.R_mono HO_4.out (fun _ hk => ⟨hk.2, hk.1⟩)), (by (with_reducible repeat (first | apply Kd.R_alloc | apply Kd.R_drewN | apply Kd.R_drew)); exact HO_5.out), (by (with_reducible repeat (first | refine blk_drewN ?_ _ | refine blk_drew ?_ | refine blk_alloc ?_ _)); exact BK140.out), (by repeat (first | (with_reducible first | exact HB.out | apply below_alloc | apply pw_below_drewN | apply below_drew1 | refine below_set ?_ GE140.out) | exact HB.out))⟩)
          ·
           skip
           refine Kd.R_lit_step k31 _ 31 ?hg (N := 45) ?hd (xs := ([(⟨((rd_T51 l0 x6_1).f1), ((rd_T51 l0 x6_1).f2)⟩ : S31)] : List (S31))) (inner := [.string ((rd_T51 l0 x6_1).f1), .int .i64 ((rd_T51 l0 x6_1).f2)]) (ok := fun _ => True) (okp := fun _ => True) ?hr ?hp (fun _ hk => hk) trivial (Below.refl _ _) (Nat.le_refl _) (by simp) ?_; (case hd => rfl); (case hg => rfl); (case hr => first | (go_simp; done) | (go_simp; rfl)); (case hp => exact (Reps.c2 (show Kd.M k31 _ _ _ (⟨((rd_T51 l0 x6_1).f1), ((rd_T51 l0 x6_1).f2)⟩ : S31) [.string ((rd_T51 l0 x6_1).f1), .int .i64 ((rd_T51 l0 x6_1).f2)] from (k31_mkM _ _ _ (⟨((rd_T51 l0 x6_1).f1), ((rd_T51 l0 x6_1).f2)⟩ : S31) )) (Reps.none _ _)))
           intro v153 w69 ho70 hb hg_ hnew_
           clear hg_ hnew_
           (first | rw [← Ny152.out] at ho70 | (simp only [Int.reduceToNat] at ho70; rw [← Ny152.out] at ho70))
           have n0_ := Aside0.mk (Kd.R_elder' (by (with_reducible repeat (first | apply Kd.R_alloc | apply Kd.R_drewN | apply Kd.R_drew)); exact HO_4.out) (Kd.R_base ho70) hb)
           have n1_ := Aside0.mk (Kd.R_below (by (with_reducible repeat (first | apply Kd.R_alloc | apply Kd.R_drewN | apply Kd.R_drew)); exact HO_5.out) hb)
           have n2_ := Aside0.mk (Kd.R_lower (Kd.R_new' ho70 (Kd.R_lt (by (with_reducible repeat (first | apply Kd.R_alloc | apply Kd.R_drewN | apply Kd.R_drew)); exact HO_4.out))) (below_size (by repeat (first | (with_reducible first | exact HB.out | apply below_alloc | apply pw_below_drewN | apply below_drew1 | refine below_set ?_ GE140.out) | exact HB.out))))
           have n3_ := Aside0.mk (blk_below (g := gb140) (o := .cells #[.int .i64 ((rd_T51 l0 x6_1).f0), .string ((rd_T51 l0 x6_1).f1), .int .i64 ((rd_T51 l0 x6_1).f2)] 51 (0, 0)) (by (with_reducible repeat (first | refine blk_drewN ?_ _ | refine blk_drew ?_ | refine blk_alloc ?_ _)); exact BK140.out) hb)
           have n4_ := Aside0.mk (below_step (by repeat (first | (with_reducible first | exact HB.out | apply below_alloc | apply pw_below_drewN | apply below_drew1 | refine below_set ?_ GE140.out) | exact HB.out)) hb)
           clear HO_4
           clear HO_5
           clear BK140
           clear HB
           have HO_4 := n0_
           have HO_5 := n1_
           have HO154 := n2_
           have BK140 := n3_
           have HB := n4_
           clear n0_ n1_ n2_ n3_ n4_
           clear hb ho70
           refine hK.out _ _ ⟨(blk_cell BK140.out 0).trans rfl, (blk_cell BK140.out 1).trans rfl, (blk_cell BK140.out 2).trans rfl⟩ (fun hHeld => ?_)
           clear hK K
           refine norm_ (a' := ?_) ?_ ?_
           rotate_left
           ·
            show Act.put _ (some 45) _ = _
            simp only [Act.put, List.setIfInBounds_toArray, List.set_cons_zero, List.set_cons_succ, i64_w, i32_w]
            rfl
           refine one_ (i := 0) (N := some 37) #[true, true, false, true, true, true, true, true, true, false, false] rfl rfl (one_of HT_.out (by kernel_rfl)) (by decide) (fun K hK => ?_)
           refine Kd.R_lit_step k31 _ 31 ?hg (N := 37) ?hd (xs := ([] : List (S31))) (inner := []) (ok := fun _ => True) (okp := fun _ => True) ?hr ?hp (fun _ hk => hk) trivial (Below.refl _ _) (Nat.le_refl _) (by simp) ?_; (case hd => rfl); (case hg => rfl); (case hr => first | (go_simp; done) | (go_simp; rfl)); (case hp => exact (Reps.none _ _))
           intro v147 w71 ho72 hb hg_ hnew_
           clear hg_ hnew_
           (first | rw [← Ny146.out] at ho72 | (simp only [Int.reduceToNat] at ho72; rw [← Ny146.out] at ho72))
           have n0_ := Aside0.mk (Kd.R_elder' (by (with_reducible repeat (first | apply Kd.R_alloc | apply Kd.R_drewN | apply Kd.R_drew)); exact HO_4.out) (Kd.R_base ho72) hb)
           have n1_ := Aside0.mk (Kd.R_below (by (with_reducible repeat (first | apply Kd.R_alloc | apply Kd.R_drewN | apply Kd.R_drew)); exact HO_5.out) hb)
           have n2_ := Aside0.mk (Kd.R_elder' (by (with_reducible repeat (first | apply Kd.R_alloc | apply Kd.R_drewN | apply Kd.R_drew)); exact HO154.out) (Kd.R_base ho72) hb)
           have n3_ := Aside0.mk (Kd.R_lower (Kd.R_new' (Kd.R_new' ho72 (Kd.R_lt (by (with_reducible repeat (first | apply Kd.R_alloc | apply Kd.R_drewN | apply Kd.R_drew)); exact HO_4.out))) (Kd.R_lt (by (with_reducible repeat (first | apply Kd.R_alloc | apply Kd.R_drewN | apply Kd.R_drew)); exact HO154.out))) (below_size (by repeat (first | (with_reducible first | exact HB.out | apply below_alloc | apply pw_below_drewN | apply below_drew1 | refine below_set ?_ GE140.out) | exact HB.out))))
           have n4_ := Aside0.mk (blk_below (g := gb140) (o := .cells #[.int .i64 ((rd_T51 l0 x6_1).f0), .string ((rd_T51 l0 x6_1).f1), .int .i64 ((rd_T51 l0 x6_1).f2)] 51 (0, 0)) (by (with_reducible repeat (first | refine blk_drewN ?_ _ | refine blk_drew ?_ | refine blk_alloc ?_ _)); exact BK140.out) hb)
           have n5_ := Aside0.mk (below_step (by repeat (first | (with_reducible first | exact HB.out | apply below_alloc | apply pw_below_drewN | apply below_drew1 | refine below_set ?_ GE140.out) | exact HB.out)) hb)
           clear HO_4
           clear HO_5
           clear HO154
           clear BK140
           clear HB
           have HO_4 := n0_
           have HO_5 := n1_
           have HO154 := n2_
           have HO148 := n3_
           have BK140 := n4_
           have HB := n5_
           clear n0_ n1_ n2_ n3_ n4_ n5_
           clear hb ho72
           refine hK.out _ _ ⟨(blk_cell BK140.out 0).trans rfl, (blk_cell BK140.out 1).trans rfl, (blk_cell BK140.out 2).trans rfl⟩ (fun hHeld => ?_)
           clear hK K
           refine norm_ (a' := ?_) ?_ ?_
           rotate_left
           ·
            show Act.put _ (some 37) _ = _
            simp only [Act.put, List.setIfInBounds_toArray, List.set_cons_zero, List.set_cons_succ, i64_w, i32_w]
            rfl
           refine one_ (i := 2) (N := some 39) #[true, true, true, true, true, true, true, true, true, false, false] rfl rfl (one_of HT_.out (by kernel_rfl)) (by decide) (fun K hK => ?_)
           refine Kd.R_append_rows_step k31 (w0 := w) w.heap.size (by rfl) (.tmp 37) (.tmp 38) 25 31 (.agg #[(.string ⟨#[]⟩), (.int .i64 0)]) 24 rfl Tryd.underlying25 info31 rfl (by decide) (by omega) v147 y146 x4_1 _ _ _ (fun k_ => some k_ ≠ (.slice Ao8 x4_1.length co8 : Value).ownBlock ∧ some k_ ≠ (v153 : Value).ownBlock) (fun _ => False) rfl rfl ?aO ?aR (fun _ _ h => h) (fun _ h => h.elim) ?aF ?aB ?aS ?aL ?_
           (case aR => repeat (first | exact (Kd.R_reads' HO_4.out).2.2 | (with_reducible refine Kd.C_alloc ?_ _) | (with_reducible refine Kd.C_drewN ?_ _) | (with_reducible refine Kd.C_drew ?_)))
           (case aB => exact (by repeat (first | (with_reducible first | exact HB.out | apply below_alloc | apply pw_below_drewN | apply below_drew1 | refine below_set ?_ GE140.out) | exact HB.out)))
           (case aF => exact (fun k_ hk => ⟨Kd.fresh' (Kd.R_lt (by (with_reducible repeat (first | apply Kd.R_alloc | apply Kd.R_drewN | apply Kd.R_drew)); exact HO_4.out)) k_ hk, Kd.fresh' (Kd.R_lt (by (with_reducible repeat (first | apply Kd.R_alloc | apply Kd.R_drewN | apply Kd.R_drew)); exact HO154.out)) k_ hk⟩))
           (case aO => exact (by (with_reducible repeat (first | apply Kd.R_alloc | apply Kd.R_drewN | apply Kd.R_drew)); exact Kd.R_mono HO148.out (fun _ hk => ⟨hk.1.2, hk.2⟩)))
           (case aS => exact (below_size (by repeat (first | (with_reducible first | exact HB.out | apply below_alloc | apply pw_below_drewN | apply below_drew1 | refine below_set ?_ GE140.out) | exact HB.out))))
           (case aL => have := LMc18.out; omega)
           intro v150 w73 ho hb hg hat
           rw [← Ny149.out] at ho
           have n0_ := Aside0.mk (Kd.R_after (ok := (fun k_ => some k_ ≠ (v153 : Value).ownBlock)) (by (with_reducible repeat (first | apply Kd.R_alloc | apply Kd.R_drewN | apply Kd.R_drew)); exact Kd.R_mono HO_4.out (fun _ hk => ⟨hk.1.2, hk.2⟩)) hg hat)
           have n1_ := Aside0.mk (Kd.R_over' (by (with_reducible repeat (first | apply Kd.R_alloc | apply Kd.R_drewN | apply Kd.R_drew)); exact HO_5.out) (Kd.R_typed (by (with_reducible repeat (first | apply Kd.R_alloc | apply Kd.R_drewN | apply Kd.R_drew)); exact HO148.out)) (by decide) hg)
           have n2_ := Aside0.mk (blk_grown (g := gb140) (o := .cells #[.int .i64 ((rd_T51 l0 x6_1).f0), .string ((rd_T51 l0 x6_1).f1), .int .i64 ((rd_T51 l0 x6_1).f2)] 51 (0, 0)) (by (with_reducible repeat (first | refine blk_drewN ?_ _ | refine blk_drew ?_ | refine blk_alloc ?_ _)); exact BK140.out) hg (Kd.R_ne HO148.out BK140.out (by decide)))
           have n3_ := Aside0.mk (Kd.R_after (ok := (fun k_ => some k_ ≠ (.slice Ao8 x4_1.length co8 : Value).ownBlock)) (by (with_reducible repeat (first | apply Kd.R_alloc | apply Kd.R_drewN | apply Kd.R_drew)); exact Kd.R_mono HO154.out (fun _ hk => ⟨hk.1.2, hk.2⟩)) hg hat)
           have n4_ := Aside0.mk (hb)
           have n5_ := Aside0.mk (ho)
           clear HO_4
           clear HO_5
           clear BK140
           clear HO154
           clear HB
           clear HO148
           have HO_4 := n0_
           have HO_5 := n1_
           have BK140 := n2_
           have HO154 := n3_
           have HB := n4_
           have HO151 := n5_
           clear n0_ n1_ n2_ n3_ n4_ n5_
           clear ho hb hg hat
           refine hK.out _ _ ⟨(blk_cell BK140.out 0).trans rfl, (blk_cell BK140.out 1).trans rfl, (blk_cell BK140.out 2).trans rfl⟩ (fun hHeld => ?_)
           clear hK K
           refine norm_ (a' := ?_) ?_ ?_
           rotate_left
           ·
            show Act.put _ (some 39) _ = _
            simp only [Act.put, List.setIfInBounds_toArray, List.set_cons_zero, List.set_cons_succ, i64_w, i32_w]
            rfl
           exact norm_ (by simp only [putAll, Act.put, List.setIfInBounds_toArray, List.set_cons_zero, List.set_cons_succ]) (hCont (v147, v150, v153) _ ⟨hHeld, (by (with_reducible repeat (first | apply Kd.R_alloc | apply Kd.R_drewN | apply Kd.R_drew)); exact Kd.R_mono HO151.out (fun _ hk => ⟨hk.2, hk.1⟩)), (by (with_reducible repeat (first | apply Kd.R_alloc | apply Kd.R_drewN | apply Kd.R_drew)); exact Kd.R_mono HO154.out (fun _ hk => ⟨hk.2, hk.1⟩)), (by (with_reducible repeat (first | apply Kd.R_alloc | apply Kd.R_drewN | apply Kd.R_drew)); exact Kd.R_mono HO_4.out (fun _ hk => ⟨hk.2, hk.1⟩)), (by (with_reducible repeat (first | apply Kd.R_alloc | apply Kd.R_drewN | apply Kd.R_drew)); exact HO_5.out), (by (with_reducible repeat (first | refine blk_drewN ?_ _ | refine blk_drew ?_ | refine blk_alloc ?_ _)); exact BK140.out), (by repeat (first | (with_reducible first | exact HB.out | apply below_alloc | apply pw_below_drewN | apply below_drew1 | refine below_set ?_ GE140.out) | exact HB.out))⟩)
         rintro ⟨v147, v150, v153⟩ w74 ⟨hS_, h0_, h1_, h2_, h3_, h4_, h5_⟩
         have n0_ : Aside0 (Kd.R k31 31 w74 w.heap.size (fun k_ => some k_ ≠ (v153 : Value).ownBlock ∧ some k_ ≠ (.slice Ao8 x4_1.length co8 : Value).ownBlock) v150 y149) := ⟨h0_⟩
         have n1_ : Aside0 (Kd.R k31 31 w74 w.heap.size (fun k_ => some k_ ≠ (v150 : Value).ownBlock ∧ some k_ ≠ (.slice Ao8 x4_1.length co8 : Value).ownBlock) v153 y152) := ⟨h1_⟩
         have n2_ : Aside0 (Kd.R k31 31 w74 w.heap.size (fun k_ => some k_ ≠ (v150 : Value).ownBlock ∧ some k_ ≠ (v153 : Value).ownBlock) (.slice Ao8 x4_1.length co8) x4_1) := ⟨h2_⟩
         have n3_ : Aside0 (Kd.R (Kd.int .i64) 3 w74 w.heap.size (fun _ => True) u5 x5_1) := ⟨h3_⟩
         have n4_ : Aside0 (w74.heap[gb140]? = some (.cells #[.int .i64 ((rd_T51 l0 x6_1).f0), .string ((rd_T51 l0 x6_1).f1), .int .i64 ((rd_T51 l0 x6_1).f2)] 51 (0, 0))) := ⟨h4_⟩
         have n5_ : Aside0 (Below w.heap.size w w74) := ⟨h5_⟩
         clear HO_4
         clear HO_5
         clear BK140
         clear HB
         clear h0_ h1_ h2_ h3_ h4_ h5_
         have HO151 := n0_
         have HO154 := n1_
         have HO_4 := n2_
         have HO_5 := n3_
         have BK140 := n4_
         have HB := n5_
         clear n0_ n1_ n2_ n3_ n4_ n5_
         have hHeld : w74.cell? ⟨gb140, 0, none⟩ = some (.int .i64 ((rd_T51 l0 x6_1).f0)) ∧ w74.cell? ⟨gb140, 1, none⟩ = some (.string ((rd_T51 l0 x6_1).f1)) ∧ w74.cell? ⟨gb140, 2, none⟩ = some (.int .i64 ((rd_T51 l0 x6_1).f2)) := hS_
         obtain ⟨Ao76, co76, eo76⟩ := Kd.R_slice HO154.out
         (first | subst eo76 | (injection eo76 with f1_ f2_ f3_; have f4_ := f1_.symm; have f5_ := f3_.symm; clear f1_ f2_ f3_; subst f4_; subst f5_))
         refine norm_ (a' := ?_) ?_ ?_
         rotate_left
         ·
          simp only [putAll, Act.put, List.setIfInBounds_toArray, List.set_cons_zero, List.set_cons_succ]
          rfl
         refine one_ (i := 9) (N := some 46) #[true, true, true, true, true, true, true, true, true, true, false] rfl rfl (one_of HT_.out (by kernel_rfl)) (by decide) (fun K hK => ?_)
         refine Kd.R_append_rows_step k31 (w0 := w) w.heap.size (by rfl) (.tmp 39) (.tmp 45) 25 31 (.agg #[(.string ⟨#[]⟩), (.int .i64 0)]) 24 rfl Tryd.underlying25 info31 rfl (by decide) (by omega) v150 y149 y152 _ _ _ (fun k_ => some k_ ≠ (.slice Ao8 x4_1.length co8 : Value).ownBlock ∧ some k_ ≠ (.slice Ao76 y152.length co76 : Value).ownBlock) (fun _ => False) rfl rfl ?aO ?aR (fun _ _ h => h) (fun _ h => h.elim) ?aF ?aB ?aS ?aL ?_
         (case aR => repeat (first | exact (Kd.R_reads' HO154.out).2.2 | (with_reducible refine Kd.C_alloc ?_ _) | (with_reducible refine Kd.C_drewN ?_ _) | (with_reducible refine Kd.C_drew ?_)))
         (case aB => exact (by repeat (first | (with_reducible first | exact HB.out | apply below_alloc | apply pw_below_drewN | apply below_drew1 | refine below_set ?_ GE140.out) | exact HB.out)))
         (case aF => exact (fun k_ hk => ⟨Kd.fresh' (Kd.R_lt (by (with_reducible repeat (first | apply Kd.R_alloc | apply Kd.R_drewN | apply Kd.R_drew)); exact HO_4.out)) k_ hk, Kd.fresh' (Kd.R_lt (by (with_reducible repeat (first | apply Kd.R_alloc | apply Kd.R_drewN | apply Kd.R_drew)); exact HO154.out)) k_ hk⟩))
         (case aO => exact (by (with_reducible repeat (first | apply Kd.R_alloc | apply Kd.R_drewN | apply Kd.R_drew)); exact Kd.R_mono HO151.out (fun _ hk => ⟨hk.2, hk.1⟩)))
         (case aS => exact (below_size (by repeat (first | (with_reducible first | exact HB.out | apply below_alloc | apply pw_below_drewN | apply below_drew1 | refine below_set ?_ GE140.out) | exact HB.out))))
         (case aL => have := LMc19.out; omega)
         intro v156 w75 ho hb hg hat
         rw [← Ny155.out] at ho
         have n0_ := Aside0.mk (Kd.R_after (ok := (fun k_ => some k_ ≠ (.slice Ao76 y152.length co76 : Value).ownBlock)) (by (with_reducible repeat (first | apply Kd.R_alloc | apply Kd.R_drewN | apply Kd.R_drew)); exact Kd.R_mono HO_4.out (fun _ hk => ⟨hk.2, hk.1⟩)) hg hat)
         have n1_ := Aside0.mk (Kd.R_over' (by (with_reducible repeat (first | apply Kd.R_alloc | apply Kd.R_drewN | apply Kd.R_drew)); exact HO_5.out) (Kd.R_typed (by (with_reducible repeat (first | apply Kd.R_alloc | apply Kd.R_drewN | apply Kd.R_drew)); exact HO151.out)) (by decide) hg)
         have n2_ := Aside0.mk (blk_grown (g := gb140) (o := .cells #[.int .i64 ((rd_T51 l0 x6_1).f0), .string ((rd_T51 l0 x6_1).f1), .int .i64 ((rd_T51 l0 x6_1).f2)] 51 (0, 0)) (by (with_reducible repeat (first | refine blk_drewN ?_ _ | refine blk_drew ?_ | refine blk_alloc ?_ _)); exact BK140.out) hg (Kd.R_ne HO151.out BK140.out (by decide)))
         have n3_ := Aside0.mk (Kd.R_after (ok := (fun k_ => some k_ ≠ (.slice Ao8 x4_1.length co8 : Value).ownBlock)) (by (with_reducible repeat (first | apply Kd.R_alloc | apply Kd.R_drewN | apply Kd.R_drew)); exact Kd.R_mono HO154.out (fun _ hk => ⟨hk.2, hk.1⟩)) hg hat)
         have n4_ := Aside0.mk (hb)
         have n5_ := Aside0.mk (ho)
         clear HO_4
         clear HO_5
         clear BK140
         clear HO154
         clear HB
         clear HO151
         have HO_4 := n0_
         have HO_5 := n1_
         have BK140 := n2_
         have HO154 := n3_
         have HB := n4_
         have HO157 := n5_
         clear n0_ n1_ n2_ n3_ n4_ n5_
         clear ho hb hg hat
         refine hK.out _ _ ⟨(blk_cell BK140.out 0).trans rfl, (blk_cell BK140.out 1).trans rfl, (blk_cell BK140.out 2).trans rfl⟩ (fun hHeld => ?_)
         clear hK K
         refine norm_ (a' := ?_) ?_ ?_
         rotate_left
         ·
          show Act.put _ (some 46) _ = _
          simp only [Act.put, List.setIfInBounds_toArray, List.set_cons_zero, List.set_cons_succ, i64_w, i32_w]
          rfl
         refine pure_ (i := 10) (N := some 4) (v := ?_) (a' := ?_) #[true, true, true, true, true, true, true, true, true, true, true] rfl rfl (any_of HT_.out (by kernel_rfl)) (fun _ _ _ h => h) (Or.inl ⟨by rfl, ?_⟩) ?_ ?_
         rotate_left
         ·
          intro w'
          go_simp
          with_reducible rfl
         rotate_left
         ·
          simp only [Act.put, List.setIfInBounds_toArray, List.set_cons_zero, List.set_cons_succ, i64_w, i32_w]
          rfl
         refine done_ (done_of HT_.out (by kernel_rfl)) ?_
         have hcz77_0 : w75.cell? ⟨gb140, 0, none⟩ = some (.int .i64 ((rd_T51 l0 x6_1).f0)) := (blk_cell BK140.out 0).trans rfl
         have hcz77_1 : w75.cell? ⟨gb140, 1, none⟩ = some (.string ((rd_T51 l0 x6_1).f1)) := (blk_cell BK140.out 1).trans rfl
         have hcz77_2 : w75.cell? ⟨gb140, 2, none⟩ = some (.int .i64 ((rd_T51 l0 x6_1).f2)) := (blk_cell BK140.out 2).trans rfl
         have hfz77_0 := blk_frozen BK140.out 0
         have hfz77_1 := blk_frozen BK140.out 1
         have hfz77_2 := blk_frozen BK140.out 2
         try go_wp2_with (first | ((with_reducible refine gate_dst (N := 66) rfl ?_); refine Kd.R_lit (Kd.int .i64) _ 3 ?hg (N := 66) ?hd (xs := ([0] : List Int)) (inner := [.int .i64 0]) (ok := fun _ => True) (okp := fun _ => True) ?hr ?hp (fun _ hk => hk) trivial (Below.refl _ _) (Nat.le_refl _) (by simp) ?_; (case hd => rfl); (case hg => rfl); (case hr => first | (go_simp; done) | (go_simp; rfl)); (case hp => exact (Reps.one (show Kd.M (Kd.int .i64) _ _ _ 0 [.int .i64 0] from rfl) (Reps.none _ _))); intro v188 w78 ho79 hb hg_ hnew_; clear hg_ hnew_; (first | rw [← Ny187.out] at ho79 | (simp only [Int.reduceToNat] at ho79; rw [← Ny187.out] at ho79)); have n0_ := Aside0.mk (Kd.R_below (by (with_reducible repeat (first | apply Kd.R_alloc | apply Kd.R_drewN | apply Kd.R_drew)); exact HO_4.out) hb); have n1_ := Aside0.mk (Kd.R_elder' (by (with_reducible repeat (first | apply Kd.R_alloc | apply Kd.R_drewN | apply Kd.R_drew)); exact HO_5.out) (Kd.R_base ho79) hb); have n2_ := Aside0.mk (Kd.R_below (by (with_reducible repeat (first | apply Kd.R_alloc | apply Kd.R_drewN | apply Kd.R_drew)); exact HO154.out) hb); have n3_ := Aside0.mk (Kd.R_below (by (with_reducible repeat (first | apply Kd.R_alloc | apply Kd.R_drewN | apply Kd.R_drew)); exact HO157.out) hb); have n4_ := Aside0.mk (Kd.R_lower (Kd.R_new' ho79 (Kd.R_lt (by (with_reducible repeat (first | apply Kd.R_alloc | apply Kd.R_drewN | apply Kd.R_drew)); exact HO_5.out))) (below_size (by repeat (first | (with_reducible first | exact HB.out | apply below_alloc | apply pw_below_drewN | apply below_drew1 | refine below_set ?_ GE140.out) | exact HB.out)))); have n5_ := Aside0.mk (blk_below (g := gb140) (o := .cells #[.int .i64 ((rd_T51 l0 x6_1).f0), .string ((rd_T51 l0 x6_1).f1), .int .i64 ((rd_T51 l0 x6_1).f2)] 51 (0, 0)) (by (with_reducible repeat (first | refine blk_drewN ?_ _ | refine blk_drew ?_ | refine blk_alloc ?_ _)); exact BK140.out) hb); have n6_ := Aside0.mk (below_step (by repeat (first | (with_reducible first | exact HB.out | apply below_alloc | apply pw_below_drewN | apply below_drew1 | refine below_set ?_ GE140.out) | exact HB.out)) hb); clear HO_4; clear HO_5; clear HO154; clear HO157; clear BK140; clear HB; have HO_4 := n0_; have HO_5 := n1_; have HO154 := n2_; have HO157 := n3_; have HO189 := n4_; have BK140 := n5_; have HB := n6_; clear n0_ n1_ n2_ n3_ n4_ n5_ n6_; clear hb ho79; obtain ⟨Ao81, co81, eo81⟩ := Kd.R_slice HO189.out; subst eo81) | ((with_reducible refine gate_builtin (b := .append) (xs := #[.tmp 64, .tmp 66]) rfl ?_); at_builtin; refine Kd.R_append_rows (Kd.int .i64) (w0 := w) w.heap.size rfl (.tmp 64) (.tmp 66) 40 3 (.int .i64 0) 8 rfl Tryd.underlying40 info3 rfl (by decide) (by omega) u5 x5_1 y187 _ _ _ (fun k_ => some k_ ≠ (.slice Ao81 y187.length co81 : Value).ownBlock) (fun _ => False) rfl rfl ?aO ?aR (fun _ _ h => h) (fun _ h => h.elim) ?aF ?aB ?aS ?aL ?_; (case aR => repeat (first | exact (Kd.R_reads' HO189.out).2.2 | (with_reducible refine Kd.C_alloc ?_ _) | (with_reducible refine Kd.C_drewN ?_ _) | (with_reducible refine Kd.C_drew ?_))); (case aB => exact (by repeat (first | (with_reducible first | exact HB.out | apply below_alloc | apply pw_below_drewN | apply below_drew1 | refine below_set ?_ GE140.out) | exact HB.out))); (case aF => exact (fun k_ hk => Kd.fresh' (Kd.R_lt (by (with_reducible repeat (first | apply Kd.R_alloc | apply Kd.R_drewN | apply Kd.R_drew)); exact HO189.out)) k_ hk)); (case aO => exact (by (with_reducible repeat (first | apply Kd.R_alloc | apply Kd.R_drewN | apply Kd.R_drew)); exact Kd.R_mono HO_5.out (fun _ hk => hk.2))); (case aS => exact (below_size (by repeat (first | (with_reducible first | exact HB.out | apply below_alloc | apply pw_below_drewN | apply below_drew1 | refine below_set ?_ GE140.out) | exact HB.out)))); (case aL => have := LMc67.out; omega); intro v191 w80 ho hb hg hat; rw [← Ny190.out] at ho; have n0_ := Aside0.mk (Kd.R_over' (by (with_reducible repeat (first | apply Kd.R_alloc | apply Kd.R_drewN | apply Kd.R_drew)); exact HO_4.out) (Kd.R_typed (by (with_reducible repeat (first | apply Kd.R_alloc | apply Kd.R_drewN | apply Kd.R_drew)); exact HO_5.out)) (by decide) hg); have n1_ := Aside0.mk (blk_grown (g := gb140) (o := .cells #[.int .i64 ((rd_T51 l0 x6_1).f0), .string ((rd_T51 l0 x6_1).f1), .int .i64 ((rd_T51 l0 x6_1).f2)] 51 (0, 0)) (by (with_reducible repeat (first | refine blk_drewN ?_ _ | refine blk_drew ?_ | refine blk_alloc ?_ _)); exact BK140.out) hg (Kd.R_ne HO_5.out BK140.out (by decide))); have n2_ := Aside0.mk (Kd.R_over' (by (with_reducible repeat (first | apply Kd.R_alloc | apply Kd.R_drewN | apply Kd.R_drew)); exact HO154.out) (Kd.R_typed (by (with_reducible repeat (first | apply Kd.R_alloc | apply Kd.R_drewN | apply Kd.R_drew)); exact HO_5.out)) (by decide) hg); have n3_ := Aside0.mk (Kd.R_over' (by (with_reducible repeat (first | apply Kd.R_alloc | apply Kd.R_drewN | apply Kd.R_drew)); exact HO157.out) (Kd.R_typed (by (with_reducible repeat (first | apply Kd.R_alloc | apply Kd.R_drewN | apply Kd.R_drew)); exact HO_5.out)) (by decide) hg); have n4_ := Aside0.mk (Kd.R_after (ok := (fun _ => True)) (by (with_reducible repeat (first | apply Kd.R_alloc | apply Kd.R_drewN | apply Kd.R_drew)); exact HO189.out) hg hat); have n5_ := Aside0.mk (hb); have n6_ := Aside0.mk (ho); clear HO_4; clear BK140; clear HO154; clear HO157; clear HO189; clear HB; clear HO_5; have HO_4 := n0_; have BK140 := n1_; have HO154 := n2_; have HO157 := n3_; have HO189 := n4_; have HB := n5_; have HO192 := n6_; clear n0_ n1_ n2_ n3_ n4_ n5_ n6_; clear ho hb hg hat))
         go_roundg kj4
         case measure => have := HK1.out; have := HJ4.out; omega
         case rel => exact ⟨(y155), (y190), (wrap64 (x6_1 + 1)), (by first | rfl | (simp; done) | (simp [*]; done)), H', ⟨by have := HK1.out; have := HJ4.out; omega⟩, ⟨by (with_reducible repeat (first | apply Kd.R_alloc | apply Kd.R_drewN | apply Kd.R_drew)); exact Kd.R_mono HO157.out (fun _ hk => trivial)⟩, ⟨by (with_reducible repeat (first | apply Kd.R_alloc | apply Kd.R_drewN | apply Kd.R_drew)); exact Kd.R_mono HO192.out (fun _ hk => trivial)⟩, ⟨by repeat (first | (with_reducible first | exact HB.out | apply below_alloc | apply pw_below_drewN | apply below_drew1 | refine below_set ?_ GE140.out) | exact HB.out)⟩⟩
       ·
        rw [if_neg c17] at H
        have c17b0 : decide (t141 < 0) = false := decide_eq_false c17
        clear c17
        by_cases c82 : ((rd_T51 l0 x6_1).f0) = 1
        ·
         rw [if_pos c82] at H
         exact absurd H (by simp)
        ·
         rw [if_neg c82] at H
         have c82b0 : (((rd_T51 l0 x6_1).f0) == 1) = false := beq_eq_false_iff_ne.mpr c82
         have c82b1 : (((rd_T51 l0 x6_1).f0) != 1) = true := bne_iff_ne.mpr c82
         obtain ⟨y222, hy222⟩ : ∃ y_ : List Int, y_ = (([0] : List Int)) := ⟨_, rfl⟩
         replace H : (if x5_1.length + y222.length < 17592186044416 then (spec_List.l0 kj4 l0 x4_1 (x5_1 ++ y222) (wrap64 (x6_1 + 1))) else (none)) = some (r1, r2) := by first | (rw [hy222]; with_reducible exact H) | (have H2_ := (Option.bind_some _ _).symm.trans H; rw [hy222]; with_reducible exact H2_) | (have H2_ := (Option.bind_some _ _).symm.trans H; with_reducible exact H2_) | with_reducible exact H | (rw [hy222]; exact H) | exact H
         have Ny222 := Aside0.mk hy222
         clear hy222
         by_cases c110 : x5_1.length + y222.length < 17592186044416
         rotate_left
         ·
          rw [if_neg c110] at H
          exact absurd H (by simp)
         rw [if_pos c110] at H
         have LMc110 := Aside0.mk c110
         clear c110
         obtain ⟨y225, hy225⟩ : ∃ y_ : List Int, y_ = (x5_1 ++ y222) := ⟨_, rfl⟩
         replace H : (spec_List.l0 kj4 l0 x4_1 y225 (wrap64 (x6_1 + 1))) = some (r1, r2) := by first | (rw [hy225]; with_reducible exact H) | (have H2_ := (Option.bind_some _ _).symm.trans H; rw [hy225]; with_reducible exact H2_) | (have H2_ := (Option.bind_some _ _).symm.trans H; with_reducible exact H2_) | with_reducible exact H | (rw [hy225]; exact H) | exact H
         have Ny225 := Aside0.mk hy225
         clear hy225
         have H' := Aside0.mk H
         clear H
         have hcz111_0 : wc.cell? ⟨gb140, 0, none⟩ = some (.int .i64 ((rd_T51 l0 x6_1).f0)) := (blk_cell BK140.out 0).trans rfl
         have hcz111_1 : wc.cell? ⟨gb140, 1, none⟩ = some (.string ((rd_T51 l0 x6_1).f1)) := (blk_cell BK140.out 1).trans rfl
         have hcz111_2 : wc.cell? ⟨gb140, 2, none⟩ = some (.int .i64 ((rd_T51 l0 x6_1).f2)) := (blk_cell BK140.out 2).trans rfl
         have hfz111_0 := blk_frozen BK140.out 0
         have hfz111_1 := blk_frozen BK140.out 1
         have hfz111_2 := blk_frozen BK140.out 2
         go_wp2_with (first | ((with_reducible refine gate_dst (N := 66) rfl ?_); refine Kd.R_lit (Kd.int .i64) _ 3 ?hg (N := 66) ?hd (xs := ([0] : List Int)) (inner := [.int .i64 0]) (ok := fun _ => True) (okp := fun _ => True) ?hr ?hp (fun _ hk => hk) trivial (Below.refl _ _) (Nat.le_refl _) (by simp) ?_; (case hd => rfl); (case hg => rfl); (case hr => first | (go_simp; done) | (go_simp; rfl)); (case hp => exact (Reps.one (show Kd.M (Kd.int .i64) _ _ _ 0 [.int .i64 0] from rfl) (Reps.none _ _))); intro v223 w112 ho113 hb hg_ hnew_; clear hg_ hnew_; (first | rw [← Ny222.out] at ho113 | (simp only [Int.reduceToNat] at ho113; rw [← Ny222.out] at ho113)); have n0_ := Aside0.mk (Kd.R_below (by (with_reducible repeat (first | apply Kd.R_alloc | apply Kd.R_drewN | apply Kd.R_drew)); exact HO_4.out) hb); have n1_ := Aside0.mk (Kd.R_elder' (by (with_reducible repeat (first | apply Kd.R_alloc | apply Kd.R_drewN | apply Kd.R_drew)); exact HO_5.out) (Kd.R_base ho113) hb); have n2_ := Aside0.mk (Kd.R_lower (Kd.R_new' ho113 (Kd.R_lt (by (with_reducible repeat (first | apply Kd.R_alloc | apply Kd.R_drewN | apply Kd.R_drew)); exact HO_5.out))) (below_size (by repeat (first | (with_reducible first | exact HB.out | apply below_alloc | apply pw_below_drewN | apply below_drew1 | refine below_set ?_ GE140.out) | exact HB.out)))); have n3_ := Aside0.mk (blk_below (g := gb140) (o := .cells #[.int .i64 ((rd_T51 l0 x6_1).f0), .string ((rd_T51 l0 x6_1).f1), .int .i64 ((rd_T51 l0 x6_1).f2)] 51 (0, 0)) (by (with_reducible repeat (first | refine blk_drewN ?_ _ | refine blk_drew ?_ | refine blk_alloc ?_ _)); exact BK140.out) hb); have n4_ := Aside0.mk (below_step (by repeat (first | (with_reducible first | exact HB.out | apply below_alloc | apply pw_below_drewN | apply below_drew1 | refine below_set ?_ GE140.out) | exact HB.out)) hb); clear HO_4; clear HO_5; clear BK140; clear HB; have HO_4 := n0_; have HO_5 := n1_; have HO224 := n2_; have BK140 := n3_; have HB := n4_; clear n0_ n1_ n2_ n3_ n4_; clear hb ho113; obtain ⟨Ao115, co115, eo115⟩ := Kd.R_slice HO224.out; subst eo115) | ((with_reducible refine gate_builtin (b := .append) (xs := #[.tmp 64, .tmp 66]) rfl ?_); at_builtin; refine Kd.R_append_rows (Kd.int .i64) (w0 := w) w.heap.size rfl (.tmp 64) (.tmp 66) 40 3 (.int .i64 0) 8 rfl Tryd.underlying40 info3 rfl (by decide) (by omega) u5 x5_1 y222 _ _ _ (fun k_ => some k_ ≠ (.slice Ao115 y222.length co115 : Value).ownBlock) (fun _ => False) rfl rfl ?aO ?aR (fun _ _ h => h) (fun _ h => h.elim) ?aF ?aB ?aS ?aL ?_; (case aR => repeat (first | exact (Kd.R_reads' HO224.out).2.2 | (with_reducible refine Kd.C_alloc ?_ _) | (with_reducible refine Kd.C_drewN ?_ _) | (with_reducible refine Kd.C_drew ?_))); (case aB => exact (by repeat (first | (with_reducible first | exact HB.out | apply below_alloc | apply pw_below_drewN | apply below_drew1 | refine below_set ?_ GE140.out) | exact HB.out))); (case aF => exact (fun k_ hk => Kd.fresh' (Kd.R_lt (by (with_reducible repeat (first | apply Kd.R_alloc | apply Kd.R_drewN | apply Kd.R_drew)); exact HO224.out)) k_ hk)); (case aO => exact (by (with_reducible repeat (first | apply Kd.R_alloc | apply Kd.R_drewN | apply Kd.R_drew)); exact Kd.R_mono HO_5.out (fun _ hk => hk.2))); (case aS => exact (below_size (by repeat (first | (with_reducible first | exact HB.out | apply below_alloc | apply pw_below_drewN | apply below_drew1 | refine below_set ?_ GE140.out) | exact HB.out)))); (case aL => have := LMc110.out; omega); intro v226 w114 ho hb hg hat; rw [← Ny225.out] at ho; have n0_ := Aside0.mk (Kd.R_over' (by (with_reducible repeat (first | apply Kd.R_alloc | apply Kd.R_drewN | apply Kd.R_drew)); exact HO_4.out) (Kd.R_typed (by (with_reducible repeat (first | apply Kd.R_alloc | apply Kd.R_drewN | apply Kd.R_drew)); exact HO_5.out)) (by decide) hg); have n1_ := Aside0.mk (blk_grown (g := gb140) (o := .cells #[.int .i64 ((rd_T51 l0 x6_1).f0), .string ((rd_T51 l0 x6_1).f1), .int .i64 ((rd_T51 l0 x6_1).f2)] 51 (0, 0)) (by (with_reducible repeat (first | refine blk_drewN ?_ _ | refine blk_drew ?_ | refine blk_alloc ?_ _)); exact BK140.out) hg (Kd.R_ne HO_5.out BK140.out (by decide))); have n2_ := Aside0.mk (Kd.R_after (ok := (fun _ => True)) (by (with_reducible repeat (first | apply Kd.R_alloc | apply Kd.R_drewN | apply Kd.R_drew)); exact HO224.out) hg hat); have n3_ := Aside0.mk (hb); have n4_ := Aside0.mk (ho); clear HO_4; clear BK140; clear HO224; clear HB; clear HO_5; have HO_4 := n0_; have BK140 := n1_; have HO224 := n2_; have HB := n3_; have HO227 := n4_; clear n0_ n1_ n2_ n3_ n4_; clear ho hb hg hat))
         go_roundg kj4
         case measure => have := HK1.out; have := HJ4.out; omega
         case rel => exact ⟨(x4_1), (y225), (wrap64 (x6_1 + 1)), (by first | rfl | (simp; done) | (simp [*]; done)), H', ⟨by have := HK1.out; have := HJ4.out; omega⟩, ⟨by (with_reducible repeat (first | apply Kd.R_alloc | apply Kd.R_drewN | apply Kd.R_drew)); exact HO_4.out⟩, ⟨by (with_reducible repeat (first | apply Kd.R_alloc | apply Kd.R_drewN | apply Kd.R_drew)); exact Kd.R_mono HO227.out (fun _ hk => trivial)⟩, ⟨by repeat (first | (with_reducible first | exact HB.out | apply below_alloc | apply pw_below_drewN | apply below_drew1 | refine below_set ?_ GE140.out) | exact HB.out)⟩⟩
      ·
       replace c16 := Bool.eq_false_iff.mpr c16
       subst c16
       have H1 : (if ((rd_T51 l0 x6_1).f0) = 1 then (if t141 ≥ 0 then ((some (([] : List (S31)) : List (S31))).bind fun y228 => (if 0 ≤ t141 then (if t141 ≤ (x4_1.length : Int) then ((some (x4_1.take (t141 : Int).toNat : List (S31))).bind fun y231 => (if y228.length + y231.length < 5864062014805 then ((some (y228 ++ y231 : List (S31))).bind fun y235 => (if 0 ≤ (wrap64 (t141 + 1)) then (if (wrap64 (t141 + 1)) ≤ (x4_1.length : Int) then ((some (x4_1.drop ((wrap64 (t141 + 1)) : Int).toNat : List (S31))).bind fun y238 => (if y235.length + y238.length < 5864062014805 then ((some (([0] : List Int) : List Int)).bind fun y245 => (if x5_1.length + y245.length < 17592186044416 then (spec_List.l0 kj4 l0 (y235 ++ y238) (x5_1 ++ y245) (wrap64 (x6_1 + 1))) else (none))) else (none))) else (none)) else (none))) else (none))) else (none)) else (none))) else ((some (([1] : List Int) : List Int)).bind fun y251 => (if x5_1.length + y251.length < 17592186044416 then (spec_List.l0 kj4 l0 x4_1 (x5_1 ++ y251) (wrap64 (x6_1 + 1))) else (none)))) else ((some (([1] : List Int) : List Int)).bind fun y257 => (if x5_1.length + y257.length < 17592186044416 then (spec_List.l0 kj4 l0 x4_1 (x5_1 ++ y257) (wrap64 (x6_1 + 1))) else (none)))) = some (r1, r2) := by rw [if_neg (show ¬ (false = true) by decide)] at H; exact H
       clear H
       have H := H1
       clear H1
       by_cases c116 : ((rd_T51 l0 x6_1).f0) = 1
       ·
        rw [if_pos c116] at H
        have c116b0 : (((rd_T51 l0 x6_1).f0) == 1) = true := beq_iff_eq.mpr c116
        have c116b1 : (((rd_T51 l0 x6_1).f0) != 1) = false := bne_eq_false_iff_eq.mpr c116
        clear c116
        by_cases c117 : t141 ≥ 0
        ·
         rw [if_pos c117] at H
         have c117b0 : decide (0 ≤ t141) = true := decide_eq_true c117
         clear c117
         obtain ⟨y228, hy228⟩ : ∃ y_ : List (S31), y_ = (([] : List (S31))) := ⟨_, rfl⟩
         replace H : (if 0 ≤ t141 then (if t141 ≤ (x4_1.length : Int) then ((some (x4_1.take (t141 : Int).toNat : List (S31))).bind fun y231 => (if y228.length + y231.length < 5864062014805 then ((some (y228 ++ y231 : List (S31))).bind fun y235 => (if 0 ≤ (wrap64 (t141 + 1)) then (if (wrap64 (t141 + 1)) ≤ (x4_1.length : Int) then ((some (x4_1.drop ((wrap64 (t141 + 1)) : Int).toNat : List (S31))).bind fun y238 => (if y235.length + y238.length < 5864062014805 then ((some (([0] : List Int) : List Int)).bind fun y245 => (if x5_1.length + y245.length < 17592186044416 then (spec_List.l0 kj4 l0 (y235 ++ y238) (x5_1 ++ y245) (wrap64 (x6_1 + 1))) else (none))) else (none))) else (none)) else (none))) else (none))) else (none)) else (none)) = some (r1, r2) := by first | (rw [hy228]; with_reducible exact H) | (have H2_ := (Option.bind_some _ _).symm.trans H; rw [hy228]; with_reducible exact H2_) | (have H2_ := (Option.bind_some _ _).symm.trans H; with_reducible exact H2_) | with_reducible exact H | (rw [hy228]; exact H) | exact H
         have Ny228 := Aside0.mk hy228
         clear hy228
         by_cases c118 : 0 ≤ t141
         rotate_left
         ·
          rw [if_neg c118] at H
          exact absurd H (by simp)
         rw [if_pos c118] at H
         have c118b0 := eq_true c118
         have c118b1 : decide (0 ≤ t141) = true := decide_eq_true c118
         clear c118
         by_cases c119 : t141 ≤ (x4_1.length : Int)
         rotate_left
         ·
          rw [if_neg c119] at H
          exact absurd H (by simp)
         rw [if_pos c119] at H
         have c119b0 := eq_true c119
         have c119b1 : decide (t141 ≤ (x4_1.length : Int)) = true := decide_eq_true c119
         clear c119
         obtain ⟨y231, hy231⟩ : ∃ y_ : List (S31), y_ = (x4_1.take (t141 : Int).toNat) := ⟨_, rfl⟩
         replace H : (if y228.length + y231.length < 5864062014805 then ((some (y228 ++ y231 : List (S31))).bind fun y235 => (if 0 ≤ (wrap64 (t141 + 1)) then (if (wrap64 (t141 + 1)) ≤ (x4_1.length : Int) then ((some (x4_1.drop ((wrap64 (t141 + 1)) : Int).toNat : List (S31))).bind fun y238 => (if y235.length + y238.length < 5864062014805 then ((some (([0] : List Int) : List Int)).bind fun y245 => (if x5_1.length + y245.length < 17592186044416 then (spec_List.l0 kj4 l0 (y235 ++ y238) (x5_1 ++ y245) (wrap64 (x6_1 + 1))) else (none))) else (none))) else (none)) else (none))) else (none)) = some (r1, r2) := by first | (rw [hy231]; with_reducible exact H) | (have H2_ := (Option.bind_some _ _).symm.trans H; rw [hy231]; with_reducible exact H2_) | (have H2_ := (Option.bind_some _ _).symm.trans H; with_reducible exact H2_) | with_reducible exact H | (rw [hy231]; exact H) | exact H
         have Ny231 := Aside0.mk hy231
         clear hy231
         by_cases c120 : y228.length + y231.length < 5864062014805
         rotate_left
         ·
          rw [if_neg c120] at H
          exact absurd H (by simp)
         rw [if_pos c120] at H
         have LMc120 := Aside0.mk c120
         clear c120
         obtain ⟨y235, hy235⟩ : ∃ y_ : List (S31), y_ = (y228 ++ y231) := ⟨_, rfl⟩
         replace H : (if 0 ≤ (wrap64 (t141 + 1)) then (if (wrap64 (t141 + 1)) ≤ (x4_1.length : Int) then ((some (x4_1.drop ((wrap64 (t141 + 1)) : Int).toNat : List (S31))).bind fun y238 => (if y235.length + y238.length < 5864062014805 then ((some (([0] : List Int) : List Int)).bind fun y245 => (if x5_1.length + y245.length < 17592186044416 then (spec_List.l0 kj4 l0 (y235 ++ y238) (x5_1 ++ y245) (wrap64 (x6_1 + 1))) else (none))) else (none))) else (none)) else (none)) = some (r1, r2) := by first | (rw [hy235]; with_reducible exact H) | (have H2_ := (Option.bind_some _ _).symm.trans H; rw [hy235]; with_reducible exact H2_) | (have H2_ := (Option.bind_some _ _).symm.trans H; with_reducible exact H2_) | with_reducible exact H | (rw [hy235]; exact H) | exact H
         have Ny235 := Aside0.mk hy235
         clear hy235
         obtain ⟨ji121, hji121⟩ : ∃ j_ : Int, (wrap64 (t141 + 1)) = j_ := ⟨_, rfl⟩
         replace H : (if 0 ≤ (ji121) then (if (ji121) ≤ (x4_1.length : Int) then ((some (x4_1.drop ((ji121) : Int).toNat : List (S31))).bind fun y238 => (if y235.length + y238.length < 5864062014805 then ((some (([0] : List Int) : List Int)).bind fun y245 => (if x5_1.length + y245.length < 17592186044416 then (spec_List.l0 kj4 l0 (y235 ++ y238) (x5_1 ++ y245) (wrap64 (x6_1 + 1))) else (none))) else (none))) else (none)) else (none)) = some (r1, r2) := by first | (rw [hji121] at H; exact H) | (simp only [hji121] at H ⊢; exact H)
         have hji121w : (IntKind.i64.wrap (t141 + 1)) = ji121 := (i64_w _).trans hji121
         by_cases c122 : 0 ≤ (ji121)
         rotate_left
         ·
          rw [if_neg c122] at H
          exact absurd H (by simp)
         rw [if_pos c122] at H
         have c122b0 := eq_true c122
         have c122b1 : decide (0 ≤ (ji121)) = true := decide_eq_true c122
         clear c122
         by_cases c123 : (ji121) ≤ (x4_1.length : Int)
         rotate_left
         ·
          rw [if_neg c123] at H
          exact absurd H (by simp)
         rw [if_pos c123] at H
         have c123b0 := eq_true c123
         have c123b1 : decide ((ji121) ≤ (x4_1.length : Int)) = true := decide_eq_true c123
         clear c123
         obtain ⟨y238, hy238⟩ : ∃ y_ : List (S31), y_ = (x4_1.drop ((ji121) : Int).toNat) := ⟨_, rfl⟩
         replace H : (if y235.length + y238.length < 5864062014805 then ((some (([0] : List Int) : List Int)).bind fun y245 => (if x5_1.length + y245.length < 17592186044416 then (spec_List.l0 kj4 l0 (y235 ++ y238) (x5_1 ++ y245) (wrap64 (x6_1 + 1))) else (none))) else (none)) = some (r1, r2) := by first | (rw [hy238]; with_reducible exact H) | (have H2_ := (Option.bind_some _ _).symm.trans H; rw [hy238]; with_reducible exact H2_) | (have H2_ := (Option.bind_some _ _).symm.trans H; with_reducible exact H2_) | with_reducible exact H | (rw [hy238]; exact H) | exact H
         have Ny238 := Aside0.mk hy238
         clear hy238
         by_cases c124 : y235.length + y238.length < 5864062014805
         rotate_left
         ·
          rw [if_neg c124] at H
          exact absurd H (by simp)
         rw [if_pos c124] at H
         have LMc124 := Aside0.mk c124
         clear c124
         obtain ⟨y242, hy242⟩ : ∃ y_ : List (S31), y_ = (y235 ++ y238) := ⟨_, rfl⟩
         replace H : ((some (([0] : List Int) : List Int)).bind fun y245 => (if x5_1.length + y245.length < 17592186044416 then (spec_List.l0 kj4 l0 y242 (x5_1 ++ y245) (wrap64 (x6_1 + 1))) else (none))) = some (r1, r2) := by first | (rw [hy242]; with_reducible exact H) | (have H2_ := (Option.bind_some _ _).symm.trans H; rw [hy242]; with_reducible exact H2_) | (have H2_ := (Option.bind_some _ _).symm.trans H; with_reducible exact H2_) | with_reducible exact H | (rw [hy242]; exact H) | exact H
         have Ny242 := Aside0.mk hy242
         clear hy242
         obtain ⟨y245, hy245⟩ : ∃ y_ : List Int, y_ = (([0] : List Int)) := ⟨_, rfl⟩
         replace H : (if x5_1.length + y245.length < 17592186044416 then (spec_List.l0 kj4 l0 y242 (x5_1 ++ y245) (wrap64 (x6_1 + 1))) else (none)) = some (r1, r2) := by first | (rw [hy245]; with_reducible exact H) | (have H2_ := (Option.bind_some _ _).symm.trans H; rw [hy245]; with_reducible exact H2_) | (have H2_ := (Option.bind_some _ _).symm.trans H; with_reducible exact H2_) | with_reducible exact H | (rw [hy245]; exact H) | exact H
         have Ny245 := Aside0.mk hy245
         clear hy245
         by_cases c125 : x5_1.length + y245.length < 17592186044416
         rotate_left
         ·
          rw [if_neg c125] at H
          exact absurd H (by simp)
         rw [if_pos c125] at H
         have LMc125 := Aside0.mk c125
         clear c125
         obtain ⟨y248, hy248⟩ : ∃ y_ : List Int, y_ = (x5_1 ++ y245) := ⟨_, rfl⟩
         replace H : (spec_List.l0 kj4 l0 y242 y248 (wrap64 (x6_1 + 1))) = some (r1, r2) := by first | (rw [hy248]; with_reducible exact H) | (have H2_ := (Option.bind_some _ _).symm.trans H; rw [hy248]; with_reducible exact H2_) | (have H2_ := (Option.bind_some _ _).symm.trans H; with_reducible exact H2_) | with_reducible exact H | (rw [hy248]; exact H) | exact H
         have Ny248 := Aside0.mk hy248
         clear hy248
         have H' := Aside0.mk H
         clear H
         have hcz126_0 : wc.cell? ⟨gb140, 0, none⟩ = some (.int .i64 ((rd_T51 l0 x6_1).f0)) := (blk_cell BK140.out 0).trans rfl
         have hcz126_1 : wc.cell? ⟨gb140, 1, none⟩ = some (.string ((rd_T51 l0 x6_1).f1)) := (blk_cell BK140.out 1).trans rfl
         have hcz126_2 : wc.cell? ⟨gb140, 2, none⟩ = some (.int .i64 ((rd_T51 l0 x6_1).f2)) := (blk_cell BK140.out 2).trans rfl
         have hfz126_0 := blk_frozen BK140.out 0
         have hfz126_1 := blk_frozen BK140.out 1
         have hfz126_2 := blk_frozen BK140.out 2
         try go_wp2
         have n0_ := Aside0.mk (Kd.R_drew HO_4.out)
         have n1_ := Aside0.mk (Kd.R_drew HO_5.out)
         have n2_ := Aside0.mk (blk_drew BK140.out)
         have n3_ := Aside0.mk (below_drew1 HB.out)
         clear HO_4
         clear HO_5
         clear BK140
         clear HB
         have HO_4 := n0_
         have HO_5 := n1_
         have BK140 := n2_
         have HB := n3_
         clear n0_ n1_ n2_ n3_
         have q128 : (t141 : Int) ≤ ((x4_1.length : Int) : Int) := of_decide_eq_true (by first | (with_reducible assumption) | assumption)
         obtain ⟨i0128, hi0128, _, hsz128, _⟩ := info_parts info31
         have hroom128 : x4_1.length ≤ co8 := (Kd.R_reads' HO_4.out).2.1
         have hC128 : Kd.C k31 _ Ao8 x4_1.length x4_1 := (Kd.R_reads' HO_4.out).2.2
         have hcut128 := cut_to (P := Tryd.prog) 25 31 .i64 Tryd.underlying25 hi0128 Ao8 x4_1.length co8 t141 (of_decide_eq_true (by first | (with_reducible assumption) | assumption)) q128 hroom128
         have hr128 := Kd.C_take (m := (t141 : Int).toNat) hC128 (by omega)
         have hy128 : y231.length = (t141 : Int).toNat := (by rw [Ny231.out, List.length_take]; omega)
         rw [← Ny231.out] at hr128
         rw [← hy128] at hcut128
         have HR234 := Aside0.mk hr128
         have HC234 := Aside0.mk (show y231.length ≤ co8 from by omega)
         clear hr128 hC128 hroom128 hi0128 hsz128
         have KY128 := Aside0.mk hy128
         clear hy128
         have KL128 := Aside0.mk (show (t141 : Int).toNat ≤ x4_1.length from by omega)
         replace q128 := eq_true q128
         have q129 : ((ji121) : Int) ≤ ((x4_1.length : Int) : Int) := of_decide_eq_true (by first | (with_reducible assumption) | assumption)
         obtain ⟨i0129, hi0129, _, hsz129, _⟩ := info_parts info31
         have hroom129 : x4_1.length ≤ co8 := (Kd.R_reads' HO_4.out).2.1
         have hC129 : Kd.C k31 _ Ao8 x4_1.length x4_1 := (Kd.R_reads' HO_4.out).2.2
         have q0129 : (0 : Int) ≤ ((ji121) : Int) := of_decide_eq_true (by first | (with_reducible assumption) | assumption)
         have hcut129 := cut_from (P := Tryd.prog) 25 31 .i64 Tryd.underlying25 hi0129 2 hsz129 Ao8 x4_1.length co8 (ji121) q0129 q129
         have hr129 := Kd.C_drop (m := ((ji121) : Int).toNat) (c := co8) hC129 (by omega) hroom129
         obtain ⟨A129, hA129⟩ : ∃ A1, A1 = (if co8 = ((ji121) : Int).toNat then Ao8 else (Ao8 : Option Addr).map (·.add (((ji121) : Int).toNat * 2))) := ⟨_, rfl⟩
         obtain ⟨c129, hc129⟩ : ∃ c1, c1 = co8 - ((ji121) : Int).toNat := ⟨_, rfl⟩
         have hy129 : y238.length = x4_1.length - ((ji121) : Int).toNat := (by rw [Ny238.out, List.length_drop] <;> omega)
         rw [show (x4_1).drop ((ji121) : Int).toNat = y238 from Ny238.out.symm] at hr129
         replace hr129 : Kd.C k31 _ A129 y238.length y238 := (by rw [hA129]; exact hr129)
         rw [← hy129, ← hA129, ← hc129] at hcut129
         have HR241 := Aside0.mk hr129
         have HC241 := Aside0.mk (show y238.length ≤ c129 from by rw [hy129, hc129]; exact Nat.sub_le_sub_right hroom129 _)
         clear hr129 hC129 hroom129 hi0129 hsz129 hc129
         have KY129 := Aside0.mk hy129
         have KA129 := Aside0.mk hA129
         clear hy129 hA129
         have KL129 := Aside0.mk (show ((ji121) : Int).toNat ≤ x4_1.length from by omega)
         replace q129 := eq_true q129
         refine start_ (n := 11) (S := fun w' => True) (ds := []) #[false, false, false, false, false, false, false, false, false, false, false] (by kernel_rfl) rfl rfl trivial (fun hHeld => ?_); refine with_tabW spec_List.tab15 spec_List.bits15 (fun HT_ HW_ => ?_)
         generalize wc.drew = w127 at HO_4 HO_5 BK140 HB HR234 HR241 hHeld ⊢
         refine pure_ (i := 1) (N := some 55) (v := ?_) (a' := ?_) #[false, true, false, false, false, false, false, false, false, false, false] rfl rfl (any_of HT_.out (by kernel_rfl)) (fun _ _ _ h => h) (Or.inl ⟨by rfl, ?_⟩) ?_ ?_
         rotate_left
         ·
          intro w'
          go_simp
          with_reducible rfl
         rotate_left
         ·
          simp only [Act.put, List.setIfInBounds_toArray, List.set_cons_zero, List.set_cons_succ, i64_w, i32_w]
          rfl
         refine pure_ (i := 2) (N := some 56) (v := ?_) (a' := ?_) #[false, true, true, false, false, false, false, false, false, false, false] rfl rfl (any_of HT_.out (by kernel_rfl)) (fun _ _ _ h => h) (Or.inl ⟨by rfl, ?_⟩) ?_ ?_
         rotate_left
         ·
          intro w'
          go_simp
          with_reducible rfl
         rotate_left
         ·
          simp only [Act.put, List.setIfInBounds_toArray, List.set_cons_zero, List.set_cons_succ, i64_w, i32_w]
          rfl
         refine pure_ (i := 3) (N := some 57) (v := ?_) (a' := ?_) #[false, true, true, true, false, false, false, false, false, false, false] rfl rfl (any_of HT_.out (by kernel_rfl)) (fun _ _ _ h => h) (Or.inl ⟨by rfl, ?_⟩) ?_ ?_
         rotate_left
         ·
          intro w'
          go_simp
          with_reducible rfl
         rotate_left
         ·
          simp only [Act.put, List.setIfInBounds_toArray, List.set_cons_zero, List.set_cons_succ, i64_w, i32_w]
          rfl
         refine pure_ (i := 5) (N := some 59) (v := ?_) (a' := ?_) #[false, true, true, true, false, true, false, false, false, false, false] rfl rfl (any_of HT_.out (by kernel_rfl)) (fun _ _ _ h => h) (Or.inl ⟨by rfl, ?_⟩) ?_ ?_
         rotate_left
         ·
          intro w'
          go_simp
          with_reducible rfl
         rotate_left
         ·
          simp only [Act.put, List.setIfInBounds_toArray, List.set_cons_zero, List.set_cons_succ, i64_w, i32_w]
          rfl
         refine pure_ (i := 6) (N := some 60) (v := ?_) (a' := ?_) #[false, true, true, true, false, true, true, false, false, false, false] rfl rfl (any_of HT_.out (by kernel_rfl)) (fun _ _ _ h => h) (Or.inl ⟨by rfl, ?_⟩) ?_ ?_
         rotate_left
         ·
          intro w'
          go_simp
          with_reducible rfl
         rotate_left
         ·
          simp only [Act.put, List.setIfInBounds_toArray, List.set_cons_zero, List.set_cons_succ, i64_w, i32_w]
          rfl
         refine pure_ (i := 7) (N := some 61) (v := ?_) (a' := ?_) #[false, true, true, true, false, true, true, true, false, false, false] rfl rfl (any_of HT_.out (by kernel_rfl)) (fun _ _ _ h => h) (Or.inl ⟨by rfl, ?_⟩) ?_ ?_
         rotate_left
         ·
          intro w'
          go_simp
          with_reducible rfl
         rotate_left
         ·
          simp only [Act.put, List.setIfInBounds_toArray, List.set_cons_zero, List.set_cons_succ, i64_w, i32_w]
          rfl
         refine pure_ (i := 8) (N := some 62) (v := ?_) (a' := ?_) #[false, true, true, true, false, true, true, true, true, false, false] rfl rfl (any_of HT_.out (by kernel_rfl)) (fun _ _ _ h => h) (Or.inl ⟨by rfl, ?_⟩) ?_ ?_
         rotate_left
         ·
          intro w'
          go_simp
          with_reducible rfl
         rotate_left
         ·
          simp only [Act.put, List.setIfInBounds_toArray, List.set_cons_zero, List.set_cons_succ, i64_w, i32_w]
          rfl
         refine one_ (i := 0) (N := some 54) #[true, true, true, true, false, true, true, true, true, false, false] rfl rfl (one_of HT_.out (by kernel_rfl)) (by decide) (fun K hK => ?_)
         refine Kd.R_lit_step k31 _ 31 ?hg (N := 54) ?hd (xs := ([] : List (S31))) (inner := []) (ok := fun _ => True) (okp := fun _ => True) ?hr ?hp (fun _ hk => hk) trivial (Below.refl _ _) (Nat.le_refl _) (by simp) ?_; (case hd => rfl); (case hg => rfl); (case hr => first | (go_simp; done) | (go_simp; rfl)); (case hp => exact (Reps.none _ _))
         intro v229 w130 ho131 hb hg_ hnew_
         clear hg_ hnew_
         (first | rw [← Ny228.out] at ho131 | (simp only [Int.reduceToNat] at ho131; rw [← Ny228.out] at ho131))
         have n0_ := Aside0.mk (Kd.R_elder' (by (with_reducible repeat (first | apply Kd.R_alloc | apply Kd.R_drewN | apply Kd.R_drew)); exact HO_4.out) (Kd.R_base ho131) hb)
         have n1_ := Aside0.mk (Kd.R_below (by (with_reducible repeat (first | apply Kd.R_alloc | apply Kd.R_drewN | apply Kd.R_drew)); exact HO_5.out) hb)
         have n2_ := Aside0.mk (Kd.R_lower (Kd.R_new' ho131 (Kd.R_lt (by (with_reducible repeat (first | apply Kd.R_alloc | apply Kd.R_drewN | apply Kd.R_drew)); exact HO_4.out))) (below_size (by repeat (first | (with_reducible first | exact HB.out | apply below_alloc | apply pw_below_drewN | apply below_drew1 | refine below_set ?_ GE140.out) | exact HB.out))))
         have n3_ := Aside0.mk (blk_below (g := gb140) (o := .cells #[.int .i64 ((rd_T51 l0 x6_1).f0), .string ((rd_T51 l0 x6_1).f1), .int .i64 ((rd_T51 l0 x6_1).f2)] 51 (0, 0)) (by (with_reducible repeat (first | refine blk_drewN ?_ _ | refine blk_drew ?_ | refine blk_alloc ?_ _)); exact BK140.out) hb)
         have n4_ := Aside0.mk (Kd.C_below (by repeat (first | (with_reducible exact HR234.out) | (with_reducible refine Kd.C_alloc ?_ _) | (with_reducible refine Kd.C_drewN ?_ _) | (with_reducible refine Kd.C_drew ?_) | exact HR234.out)) hb)
         have n5_ := Aside0.mk (Kd.C_below (by repeat (first | (with_reducible exact HR241.out) | (with_reducible refine Kd.C_alloc ?_ _) | (with_reducible refine Kd.C_drewN ?_ _) | (with_reducible refine Kd.C_drew ?_) | exact HR241.out)) hb)
         have n6_ := Aside0.mk (below_step (by repeat (first | (with_reducible first | exact HB.out | apply below_alloc | apply pw_below_drewN | apply below_drew1 | refine below_set ?_ GE140.out) | exact HB.out)) hb)
         clear HO_4
         clear HO_5
         clear BK140
         clear HR234
         clear HR241
         clear HB
         have HO_4 := n0_
         have HO_5 := n1_
         have HO230 := n2_
         have BK140 := n3_
         have HR234 := n4_
         have HR241 := n5_
         have HB := n6_
         clear n0_ n1_ n2_ n3_ n4_ n5_ n6_
         clear hb ho131
         refine hK.out _ _ trivial (fun hHeld => ?_)
         clear hK K
         refine norm_ (a' := ?_) ?_ ?_
         rotate_left
         ·
          show Act.put _ (some 54) _ = _
          simp only [Act.put, List.setIfInBounds_toArray, List.set_cons_zero, List.set_cons_succ, i64_w, i32_w]
          rfl
         refine one_ (i := 4) (N := some 58) #[true, true, true, true, true, true, true, true, true, false, false] rfl rfl (one_of HT_.out (by kernel_rfl)) (by decide) (fun K hK => ?_)
         refine Kd.R_append_rows_step k31 (w0 := w) w.heap.size (by rfl) (.tmp 54) (.tmp 57) 25 31 (.agg #[(.string ⟨#[]⟩), (.int .i64 0)]) 24 rfl Tryd.underlying25 info31 rfl (by decide) (by omega) v229 y228 y231 _ _ _ (fun k_ => some k_ ≠ (.slice Ao8 x4_1.length co8 : Value).ownBlock) (fun _ => False) rfl rfl ?aO ?aR (fun _ _ h => h) (fun _ h => h.elim) ?aF ?aB ?aS ?aL ?_
         (case aR => repeat (first | exact (by repeat (first | (with_reducible exact HR234.out) | (with_reducible refine Kd.C_alloc ?_ _) | (with_reducible refine Kd.C_drewN ?_ _) | (with_reducible refine Kd.C_drew ?_) | exact HR234.out)) | (with_reducible refine Kd.C_alloc ?_ _) | (with_reducible refine Kd.C_drewN ?_ _) | (with_reducible refine Kd.C_drew ?_)))
         (case aB => exact (by repeat (first | (with_reducible first | exact HB.out | apply below_alloc | apply pw_below_drewN | apply below_drew1 | refine below_set ?_ GE140.out) | exact HB.out)))
         (case aF => exact (fun k_ hk => Kd.fresh' (Kd.R_lt (by (with_reducible repeat (first | apply Kd.R_alloc | apply Kd.R_drewN | apply Kd.R_drew)); exact HO_4.out)) k_ hk))
         (case aO => exact (by (with_reducible repeat (first | apply Kd.R_alloc | apply Kd.R_drewN | apply Kd.R_drew)); exact Kd.R_mono HO230.out (fun _ hk => hk.2)))
         (case aS => exact (below_size (by repeat (first | (with_reducible first | exact HB.out | apply below_alloc | apply pw_below_drewN | apply below_drew1 | refine below_set ?_ GE140.out) | exact HB.out))))
         (case aL => have := LMc120.out; omega)
         intro v236 w132 ho hb hg hat
         rw [← Ny235.out] at ho
         have n0_ := Aside0.mk (Kd.R_after (ok := (fun _ => True)) (by (with_reducible repeat (first | apply Kd.R_alloc | apply Kd.R_drewN | apply Kd.R_drew)); exact HO_4.out) hg hat)
         have n1_ := Aside0.mk (Kd.R_over' (by (with_reducible repeat (first | apply Kd.R_alloc | apply Kd.R_drewN | apply Kd.R_drew)); exact HO_5.out) (Kd.R_typed (by (with_reducible repeat (first | apply Kd.R_alloc | apply Kd.R_drewN | apply Kd.R_drew)); exact HO230.out)) (by decide) hg)
         have n2_ := Aside0.mk (blk_grown (g := gb140) (o := .cells #[.int .i64 ((rd_T51 l0 x6_1).f0), .string ((rd_T51 l0 x6_1).f1), .int .i64 ((rd_T51 l0 x6_1).f2)] 51 (0, 0)) (by (with_reducible repeat (first | refine blk_drewN ?_ _ | refine blk_drew ?_ | refine blk_alloc ?_ _)); exact BK140.out) hg (Kd.R_ne HO230.out BK140.out (by decide)))
         have n3_ := Aside0.mk (hb)
         have n4_ := Aside0.mk ((show Kd.C k31 w132 Ao8 y231.length y231 from by rw [Ny231.out]; exact Kd.C_take (m := (t141 : Int).toNat) ((Kd.R_reads' (Kd.R_after (ok := (fun _ => True)) (by (with_reducible repeat (first | apply Kd.R_alloc | apply Kd.R_drewN | apply Kd.R_drew)); exact HO_4.out) hg hat)).2.2) KL128.out))
         have n5_ := Aside0.mk ((show Kd.C k31 w132 A129 y238.length y238 from by rw [Ny238.out, KA129.out]; exact Kd.C_drop (m := ((ji121) : Int).toNat) (c := co8) ((Kd.R_reads' (Kd.R_after (ok := (fun _ => True)) (by (with_reducible repeat (first | apply Kd.R_alloc | apply Kd.R_drewN | apply Kd.R_drew)); exact HO_4.out) hg hat)).2.2) KL129.out ((Kd.R_reads' (Kd.R_after (ok := (fun _ => True)) (by (with_reducible repeat (first | apply Kd.R_alloc | apply Kd.R_drewN | apply Kd.R_drew)); exact HO_4.out) hg hat)).2.1)))
         have n6_ := Aside0.mk (ho)
         clear HO_4
         clear HO_5
         clear BK140
         clear HB
         clear HR234
         clear HR241
         clear HO230
         have HO_4 := n0_
         have HO_5 := n1_
         have BK140 := n2_
         have HB := n3_
         have HR234 := n4_
         have HR241 := n5_
         have HO237 := n6_
         clear n0_ n1_ n2_ n3_ n4_ n5_ n6_
         clear ho hb hg hat
         refine hK.out _ _ trivial (fun hHeld => ?_)
         clear hK K
         refine norm_ (a' := ?_) ?_ ?_
         rotate_left
         ·
          show Act.put _ (some 58) _ = _
          simp only [Act.put, List.setIfInBounds_toArray, List.set_cons_zero, List.set_cons_succ, i64_w, i32_w]
          rfl
         refine one_ (i := 9) (N := some 63) #[true, true, true, true, true, true, true, true, true, true, false] rfl rfl (one_of HT_.out (by kernel_rfl)) (by decide) (fun K hK => ?_)
         refine Kd.R_append_rows_step k31 (w0 := w) w.heap.size (by rfl) (.tmp 58) (.tmp 62) 25 31 (.agg #[(.string ⟨#[]⟩), (.int .i64 0)]) 24 rfl Tryd.underlying25 info31 rfl (by decide) (by omega) v236 y235 y238 _ _ _ (fun k_ => some k_ ≠ (.slice Ao8 x4_1.length co8 : Value).ownBlock) (fun _ => False) rfl rfl ?aO ?aR (fun _ _ h => h) (fun _ h => h.elim) ?aF ?aB ?aS ?aL ?_
         (case aR => repeat (first | exact (by repeat (first | (with_reducible exact HR241.out) | (with_reducible refine Kd.C_alloc ?_ _) | (with_reducible refine Kd.C_drewN ?_ _) | (with_reducible refine Kd.C_drew ?_) | exact HR241.out)) | (with_reducible refine Kd.C_alloc ?_ _) | (with_reducible refine Kd.C_drewN ?_ _) | (with_reducible refine Kd.C_drew ?_)))
         (case aB => exact (by repeat (first | (with_reducible first | exact HB.out | apply below_alloc | apply pw_below_drewN | apply below_drew1 | refine below_set ?_ GE140.out) | exact HB.out)))
         (case aF => exact (fun k_ hk => Kd.fresh' (Kd.R_lt (by (with_reducible repeat (first | apply Kd.R_alloc | apply Kd.R_drewN | apply Kd.R_drew)); exact HO_4.out)) k_ hk))
         (case aO => exact (by (with_reducible repeat (first | apply Kd.R_alloc | apply Kd.R_drewN | apply Kd.R_drew)); exact HO237.out))
         (case aS => exact (below_size (by repeat (first | (with_reducible first | exact HB.out | apply below_alloc | apply pw_below_drewN | apply below_drew1 | refine below_set ?_ GE140.out) | exact HB.out))))
         (case aL => have := LMc124.out; omega)
         intro v243 w133 ho hb hg hat
         rw [← Ny242.out] at ho
         have n0_ := Aside0.mk (Kd.R_after (ok := (fun _ => True)) (by (with_reducible repeat (first | apply Kd.R_alloc | apply Kd.R_drewN | apply Kd.R_drew)); exact HO_4.out) hg hat)
         have n1_ := Aside0.mk (Kd.R_over' (by (with_reducible repeat (first | apply Kd.R_alloc | apply Kd.R_drewN | apply Kd.R_drew)); exact HO_5.out) (Kd.R_typed (by (with_reducible repeat (first | apply Kd.R_alloc | apply Kd.R_drewN | apply Kd.R_drew)); exact HO237.out)) (by decide) hg)
         have n2_ := Aside0.mk (blk_grown (g := gb140) (o := .cells #[.int .i64 ((rd_T51 l0 x6_1).f0), .string ((rd_T51 l0 x6_1).f1), .int .i64 ((rd_T51 l0 x6_1).f2)] 51 (0, 0)) (by (with_reducible repeat (first | refine blk_drewN ?_ _ | refine blk_drew ?_ | refine blk_alloc ?_ _)); exact BK140.out) hg (Kd.R_ne HO237.out BK140.out (by decide)))
         have n3_ := Aside0.mk (hb)
         have n4_ := Aside0.mk ((show Kd.C k31 w133 Ao8 y231.length y231 from by rw [Ny231.out]; exact Kd.C_take (m := (t141 : Int).toNat) ((Kd.R_reads' (Kd.R_after (ok := (fun _ => True)) (by (with_reducible repeat (first | apply Kd.R_alloc | apply Kd.R_drewN | apply Kd.R_drew)); exact HO_4.out) hg hat)).2.2) KL128.out))
         have n5_ := Aside0.mk ((show Kd.C k31 w133 A129 y238.length y238 from by rw [Ny238.out, KA129.out]; exact Kd.C_drop (m := ((ji121) : Int).toNat) (c := co8) ((Kd.R_reads' (Kd.R_after (ok := (fun _ => True)) (by (with_reducible repeat (first | apply Kd.R_alloc | apply Kd.R_drewN | apply Kd.R_drew)); exact HO_4.out) hg hat)).2.2) KL129.out ((Kd.R_reads' (Kd.R_after (ok := (fun _ => True)) (by (with_reducible repeat (first | apply Kd.R_alloc | apply Kd.R_drewN | apply Kd.R_drew)); exact HO_4.out) hg hat)).2.1)))
         have n6_ := Aside0.mk (ho)
         clear HO_4
         clear HO_5
         clear BK140
         clear HB
         clear HR234
         clear HR241
         clear HO237
         have HO_4 := n0_
         have HO_5 := n1_
         have BK140 := n2_
         have HB := n3_
         have HR234 := n4_
         have HR241 := n5_
         have HO244 := n6_
         clear n0_ n1_ n2_ n3_ n4_ n5_ n6_
         clear ho hb hg hat
         refine hK.out _ _ trivial (fun hHeld => ?_)
         clear hK K
         refine norm_ (a' := ?_) ?_ ?_
         rotate_left
         ·
          show Act.put _ (some 63) _ = _
          simp only [Act.put, List.setIfInBounds_toArray, List.set_cons_zero, List.set_cons_succ, i64_w, i32_w]
          rfl
         refine pure_ (i := 10) (N := some 4) (v := ?_) (a' := ?_) #[true, true, true, true, true, true, true, true, true, true, true] rfl rfl (any_of HT_.out (by kernel_rfl)) (fun _ _ _ h => h) (Or.inl ⟨by rfl, ?_⟩) ?_ ?_
         rotate_left
         ·
          intro w'
          go_simp
          with_reducible rfl
         rotate_left
         ·
          simp only [Act.put, List.setIfInBounds_toArray, List.set_cons_zero, List.set_cons_succ, i64_w, i32_w]
          rfl
         refine done_ (done_of HT_.out (by kernel_rfl)) ?_
         try go_wp2_with (first | ((with_reducible refine gate_dst (N := 66) rfl ?_); refine Kd.R_lit (Kd.int .i64) _ 3 ?hg (N := 66) ?hd (xs := ([0] : List Int)) (inner := [.int .i64 0]) (ok := fun _ => True) (okp := fun _ => True) ?hr ?hp (fun _ hk => hk) trivial (Below.refl _ _) (Nat.le_refl _) (by simp) ?_; (case hd => rfl); (case hg => rfl); (case hr => first | (go_simp; done) | (go_simp; rfl)); (case hp => exact (Reps.one (show Kd.M (Kd.int .i64) _ _ _ 0 [.int .i64 0] from rfl) (Reps.none _ _))); intro v246 w134 ho135 hb hg_ hnew_; clear hg_ hnew_; (first | rw [← Ny245.out] at ho135 | (simp only [Int.reduceToNat] at ho135; rw [← Ny245.out] at ho135)); have n0_ := Aside0.mk (Kd.R_below (by (with_reducible repeat (first | apply Kd.R_alloc | apply Kd.R_drewN | apply Kd.R_drew)); exact HO_4.out) hb); have n1_ := Aside0.mk (Kd.R_elder' (by (with_reducible repeat (first | apply Kd.R_alloc | apply Kd.R_drewN | apply Kd.R_drew)); exact HO_5.out) (Kd.R_base ho135) hb); have n2_ := Aside0.mk (Kd.R_below (by (with_reducible repeat (first | apply Kd.R_alloc | apply Kd.R_drewN | apply Kd.R_drew)); exact HO244.out) hb); have n3_ := Aside0.mk (Kd.R_lower (Kd.R_new' ho135 (Kd.R_lt (by (with_reducible repeat (first | apply Kd.R_alloc | apply Kd.R_drewN | apply Kd.R_drew)); exact HO_5.out))) (below_size (by repeat (first | (with_reducible first | exact HB.out | apply below_alloc | apply pw_below_drewN | apply below_drew1 | refine below_set ?_ GE140.out) | exact HB.out)))); have n4_ := Aside0.mk (blk_below (g := gb140) (o := .cells #[.int .i64 ((rd_T51 l0 x6_1).f0), .string ((rd_T51 l0 x6_1).f1), .int .i64 ((rd_T51 l0 x6_1).f2)] 51 (0, 0)) (by (with_reducible repeat (first | refine blk_drewN ?_ _ | refine blk_drew ?_ | refine blk_alloc ?_ _)); exact BK140.out) hb); have n5_ := Aside0.mk (Kd.C_below (by repeat (first | (with_reducible exact HR234.out) | (with_reducible refine Kd.C_alloc ?_ _) | (with_reducible refine Kd.C_drewN ?_ _) | (with_reducible refine Kd.C_drew ?_) | exact HR234.out)) hb); have n6_ := Aside0.mk (Kd.C_below (by repeat (first | (with_reducible exact HR241.out) | (with_reducible refine Kd.C_alloc ?_ _) | (with_reducible refine Kd.C_drewN ?_ _) | (with_reducible refine Kd.C_drew ?_) | exact HR241.out)) hb); have n7_ := Aside0.mk (below_step (by repeat (first | (with_reducible first | exact HB.out | apply below_alloc | apply pw_below_drewN | apply below_drew1 | refine below_set ?_ GE140.out) | exact HB.out)) hb); clear HO_4; clear HO_5; clear HO244; clear BK140; clear HR234; clear HR241; clear HB; have HO_4 := n0_; have HO_5 := n1_; have HO244 := n2_; have HO247 := n3_; have BK140 := n4_; have HR234 := n5_; have HR241 := n6_; have HB := n7_; clear n0_ n1_ n2_ n3_ n4_ n5_ n6_ n7_; clear hb ho135; obtain ⟨Ao137, co137, eo137⟩ := Kd.R_slice HO247.out; subst eo137) | ((with_reducible refine gate_builtin (b := .append) (xs := #[.tmp 64, .tmp 66]) rfl ?_); at_builtin; refine Kd.R_append_rows (Kd.int .i64) (w0 := w) w.heap.size rfl (.tmp 64) (.tmp 66) 40 3 (.int .i64 0) 8 rfl Tryd.underlying40 info3 rfl (by decide) (by omega) u5 x5_1 y245 _ _ _ (fun k_ => some k_ ≠ (.slice Ao137 y245.length co137 : Value).ownBlock) (fun _ => False) rfl rfl ?aO ?aR (fun _ _ h => h) (fun _ h => h.elim) ?aF ?aB ?aS ?aL ?_; (case aR => repeat (first | exact (Kd.R_reads' HO247.out).2.2 | (with_reducible refine Kd.C_alloc ?_ _) | (with_reducible refine Kd.C_drewN ?_ _) | (with_reducible refine Kd.C_drew ?_))); (case aB => exact (by repeat (first | (with_reducible first | exact HB.out | apply below_alloc | apply pw_below_drewN | apply below_drew1 | refine below_set ?_ GE140.out) | exact HB.out))); (case aF => exact (fun k_ hk => Kd.fresh' (Kd.R_lt (by (with_reducible repeat (first | apply Kd.R_alloc | apply Kd.R_drewN | apply Kd.R_drew)); exact HO247.out)) k_ hk)); (case aO => exact (by (with_reducible repeat (first | apply Kd.R_alloc | apply Kd.R_drewN | apply Kd.R_drew)); exact Kd.R_mono HO_5.out (fun _ hk => hk.2))); (case aS => exact (below_size (by repeat (first | (with_reducible first | exact HB.out | apply below_alloc | apply pw_below_drewN | apply below_drew1 | refine below_set ?_ GE140.out) | exact HB.out)))); (case aL => have := LMc125.out; omega); intro v249 w136 ho hb hg hat; rw [← Ny248.out] at ho; have n0_ := Aside0.mk (Kd.R_over' (by (with_reducible repeat (first | apply Kd.R_alloc | apply Kd.R_drewN | apply Kd.R_drew)); exact HO_4.out) (Kd.R_typed (by (with_reducible repeat (first | apply Kd.R_alloc | apply Kd.R_drewN | apply Kd.R_drew)); exact HO_5.out)) (by decide) hg); have n1_ := Aside0.mk (blk_grown (g := gb140) (o := .cells #[.int .i64 ((rd_T51 l0 x6_1).f0), .string ((rd_T51 l0 x6_1).f1), .int .i64 ((rd_T51 l0 x6_1).f2)] 51 (0, 0)) (by (with_reducible repeat (first | refine blk_drewN ?_ _ | refine blk_drew ?_ | refine blk_alloc ?_ _)); exact BK140.out) hg (Kd.R_ne HO_5.out BK140.out (by decide))); have n2_ := Aside0.mk (Kd.R_over' (by (with_reducible repeat (first | apply Kd.R_alloc | apply Kd.R_drewN | apply Kd.R_drew)); exact HO244.out) (Kd.R_typed (by (with_reducible repeat (first | apply Kd.R_alloc | apply Kd.R_drewN | apply Kd.R_drew)); exact HO_5.out)) (by decide) hg); have n3_ := Aside0.mk (Kd.R_after (ok := (fun _ => True)) (by (with_reducible repeat (first | apply Kd.R_alloc | apply Kd.R_drewN | apply Kd.R_drew)); exact HO247.out) hg hat); have n4_ := Aside0.mk (hb); have n5_ := Aside0.mk ((show Kd.C k31 w136 Ao8 y231.length y231 from by rw [Ny231.out]; exact Kd.C_take (m := (t141 : Int).toNat) ((Kd.R_reads' (Kd.R_over' (by (with_reducible repeat (first | apply Kd.R_alloc | apply Kd.R_drewN | apply Kd.R_drew)); exact HO_4.out) (Kd.R_typed (by (with_reducible repeat (first | apply Kd.R_alloc | apply Kd.R_drewN | apply Kd.R_drew)); exact HO_5.out)) (by decide) hg)).2.2) KL128.out)); have n6_ := Aside0.mk ((show Kd.C k31 w136 A129 y238.length y238 from by rw [Ny238.out, KA129.out]; exact Kd.C_drop (m := ((ji121) : Int).toNat) (c := co8) ((Kd.R_reads' (Kd.R_over' (by (with_reducible repeat (first | apply Kd.R_alloc | apply Kd.R_drewN | apply Kd.R_drew)); exact HO_4.out) (Kd.R_typed (by (with_reducible repeat (first | apply Kd.R_alloc | apply Kd.R_drewN | apply Kd.R_drew)); exact HO_5.out)) (by decide) hg)).2.2) KL129.out ((Kd.R_reads' (Kd.R_over' (by (with_reducible repeat (first | apply Kd.R_alloc | apply Kd.R_drewN | apply Kd.R_drew)); exact HO_4.out) (Kd.R_typed (by (with_reducible repeat (first | apply Kd.R_alloc | apply Kd.R_drewN | apply Kd.R_drew)); exact HO_5.out)) (by decide) hg)).2.1))); have n7_ := Aside0.mk (ho); clear HO_4; clear BK140; clear HO244; clear HO247; clear HB; clear HR234; clear HR241; clear HO_5; have HO_4 := n0_; have BK140 := n1_; have HO244 := n2_; have HO247 := n3_; have HB := n4_; have HR234 := n5_; have HR241 := n6_; have HO250 := n7_; clear n0_ n1_ n2_ n3_ n4_ n5_ n6_ n7_; clear ho hb hg hat))
         go_roundg kj4
         case measure => have := HK1.out; have := HJ4.out; omega
         case rel => exact ⟨(y242), (y248), (wrap64 (x6_1 + 1)), (by first | rfl | (simp; done) | (simp [*]; done)), H', ⟨by have := HK1.out; have := HJ4.out; omega⟩, ⟨by (with_reducible repeat (first | apply Kd.R_alloc | apply Kd.R_drewN | apply Kd.R_drew)); exact Kd.R_mono HO244.out (fun _ hk => trivial)⟩, ⟨by (with_reducible repeat (first | apply Kd.R_alloc | apply Kd.R_drewN | apply Kd.R_drew)); exact Kd.R_mono HO250.out (fun _ hk => trivial)⟩, ⟨by repeat (first | (with_reducible first | exact HB.out | apply below_alloc | apply pw_below_drewN | apply below_drew1 | refine below_set ?_ GE140.out) | exact HB.out)⟩⟩
        ·
         rw [if_neg c117] at H
         have c117b0 : decide (0 ≤ t141) = false := decide_eq_false c117
         clear c117
         obtain ⟨y251, hy251⟩ : ∃ y_ : List Int, y_ = (([1] : List Int)) := ⟨_, rfl⟩
         replace H : (if x5_1.length + y251.length < 17592186044416 then (spec_List.l0 kj4 l0 x4_1 (x5_1 ++ y251) (wrap64 (x6_1 + 1))) else (none)) = some (r1, r2) := by first | (rw [hy251]; with_reducible exact H) | (have H2_ := (Option.bind_some _ _).symm.trans H; rw [hy251]; with_reducible exact H2_) | (have H2_ := (Option.bind_some _ _).symm.trans H; with_reducible exact H2_) | with_reducible exact H | (rw [hy251]; exact H) | exact H
         have Ny251 := Aside0.mk hy251
         clear hy251
         by_cases c138 : x5_1.length + y251.length < 17592186044416
         rotate_left
         ·
          rw [if_neg c138] at H
          exact absurd H (by simp)
         rw [if_pos c138] at H
         have LMc138 := Aside0.mk c138
         clear c138
         obtain ⟨y254, hy254⟩ : ∃ y_ : List Int, y_ = (x5_1 ++ y251) := ⟨_, rfl⟩
         replace H : (spec_List.l0 kj4 l0 x4_1 y254 (wrap64 (x6_1 + 1))) = some (r1, r2) := by first | (rw [hy254]; with_reducible exact H) | (have H2_ := (Option.bind_some _ _).symm.trans H; rw [hy254]; with_reducible exact H2_) | (have H2_ := (Option.bind_some _ _).symm.trans H; with_reducible exact H2_) | with_reducible exact H | (rw [hy254]; exact H) | exact H
         have Ny254 := Aside0.mk hy254
         clear hy254
         have H' := Aside0.mk H
         clear H
         have hcz139_0 : wc.cell? ⟨gb140, 0, none⟩ = some (.int .i64 ((rd_T51 l0 x6_1).f0)) := (blk_cell BK140.out 0).trans rfl
         have hcz139_1 : wc.cell? ⟨gb140, 1, none⟩ = some (.string ((rd_T51 l0 x6_1).f1)) := (blk_cell BK140.out 1).trans rfl
         have hcz139_2 : wc.cell? ⟨gb140, 2, none⟩ = some (.int .i64 ((rd_T51 l0 x6_1).f2)) := (blk_cell BK140.out 2).trans rfl
         have hfz139_0 := blk_frozen BK140.out 0
         have hfz139_1 := blk_frozen BK140.out 1
         have hfz139_2 := blk_frozen BK140.out 2
         go_wp2_with (first | ((with_reducible refine gate_dst (N := 66) rfl ?_); refine Kd.R_lit (Kd.int .i64) _ 3 ?hg (N := 66) ?hd (xs := ([1] : List Int)) (inner := [.int .i64 1]) (ok := fun _ => True) (okp := fun _ => True) ?hr ?hp (fun _ hk => hk) trivial (Below.refl _ _) (Nat.le_refl _) (by simp) ?_; (case hd => rfl); (case hg => rfl); (case hr => first | (go_simp; done) | (go_simp; rfl)); (case hp => exact (Reps.one (show Kd.M (Kd.int .i64) _ _ _ 1 [.int .i64 1] from rfl) (Reps.none _ _))); intro v252 w140 ho141 hb hg_ hnew_; clear hg_ hnew_; (first | rw [← Ny251.out] at ho141 | (simp only [Int.reduceToNat] at ho141; rw [← Ny251.out] at ho141)); have n0_ := Aside0.mk (Kd.R_below (by (with_reducible repeat (first | apply Kd.R_alloc | apply Kd.R_drewN | apply Kd.R_drew)); exact HO_4.out) hb); have n1_ := Aside0.mk (Kd.R_elder' (by (with_reducible repeat (first | apply Kd.R_alloc | apply Kd.R_drewN | apply Kd.R_drew)); exact HO_5.out) (Kd.R_base ho141) hb); have n2_ := Aside0.mk (Kd.R_lower (Kd.R_new' ho141 (Kd.R_lt (by (with_reducible repeat (first | apply Kd.R_alloc | apply Kd.R_drewN | apply Kd.R_drew)); exact HO_5.out))) (below_size (by repeat (first | (with_reducible first | exact HB.out | apply below_alloc | apply pw_below_drewN | apply below_drew1 | refine below_set ?_ GE140.out) | exact HB.out)))); have n3_ := Aside0.mk (blk_below (g := gb140) (o := .cells #[.int .i64 ((rd_T51 l0 x6_1).f0), .string ((rd_T51 l0 x6_1).f1), .int .i64 ((rd_T51 l0 x6_1).f2)] 51 (0, 0)) (by (with_reducible repeat (first | refine blk_drewN ?_ _ | refine blk_drew ?_ | refine blk_alloc ?_ _)); exact BK140.out) hb); have n4_ := Aside0.mk (below_step (by repeat (first | (with_reducible first | exact HB.out | apply below_alloc | apply pw_below_drewN | apply below_drew1 | refine below_set ?_ GE140.out) | exact HB.out)) hb); clear HO_4; clear HO_5; clear BK140; clear HB; have HO_4 := n0_; have HO_5 := n1_; have HO253 := n2_; have BK140 := n3_; have HB := n4_; clear n0_ n1_ n2_ n3_ n4_; clear hb ho141; obtain ⟨Ao143, co143, eo143⟩ := Kd.R_slice HO253.out; subst eo143) | ((with_reducible refine gate_builtin (b := .append) (xs := #[.tmp 64, .tmp 66]) rfl ?_); at_builtin; refine Kd.R_append_rows (Kd.int .i64) (w0 := w) w.heap.size rfl (.tmp 64) (.tmp 66) 40 3 (.int .i64 0) 8 rfl Tryd.underlying40 info3 rfl (by decide) (by omega) u5 x5_1 y251 _ _ _ (fun k_ => some k_ ≠ (.slice Ao143 y251.length co143 : Value).ownBlock) (fun _ => False) rfl rfl ?aO ?aR (fun _ _ h => h) (fun _ h => h.elim) ?aF ?aB ?aS ?aL ?_; (case aR => repeat (first | exact (Kd.R_reads' HO253.out).2.2 | (with_reducible refine Kd.C_alloc ?_ _) | (with_reducible refine Kd.C_drewN ?_ _) | (with_reducible refine Kd.C_drew ?_))); (case aB => exact (by repeat (first | (with_reducible first | exact HB.out | apply below_alloc | apply pw_below_drewN | apply below_drew1 | refine below_set ?_ GE140.out) | exact HB.out))); (case aF => exact (fun k_ hk => Kd.fresh' (Kd.R_lt (by (with_reducible repeat (first | apply Kd.R_alloc | apply Kd.R_drewN | apply Kd.R_drew)); exact HO253.out)) k_ hk)); (case aO => exact (by (with_reducible repeat (first | apply Kd.R_alloc | apply Kd.R_drewN | apply Kd.R_drew)); exact Kd.R_mono HO_5.out (fun _ hk => hk.2))); (case aS => exact (below_size (by repeat (first | (with_reducible first | exact HB.out | apply below_alloc | apply pw_below_drewN | apply below_drew1 | refine below_set ?_ GE140.out) | exact HB.out)))); (case aL => have := LMc138.out; omega); intro v255 w142 ho hb hg hat; rw [← Ny254.out] at ho; have n0_ := Aside0.mk (Kd.R_over' (by (with_reducible repeat (first | apply Kd.R_alloc | apply Kd.R_drewN | apply Kd.R_drew)); exact HO_4.out) (Kd.R_typed (by (with_reducible repeat (first | apply Kd.R_alloc | apply Kd.R_drewN | apply Kd.R_drew)); exact HO_5.out)) (by decide) hg); have n1_ := Aside0.mk (blk_grown (g := gb140) (o := .cells #[.int .i64 ((rd_T51 l0 x6_1).f0), .string ((rd_T51 l0 x6_1).f1), .int .i64 ((rd_T51 l0 x6_1).f2)] 51 (0, 0)) (by (with_reducible repeat (first | refine blk_drewN ?_ _ | refine blk_drew ?_ | refine blk_alloc ?_ _)); exact BK140.out) hg (Kd.R_ne HO_5.out BK140.out (by decide))); have n2_ := Aside0.mk (Kd.R_after (ok := (fun _ => True)) (by (with_reducible repeat (first | apply Kd.R_alloc | apply Kd.R_drewN | apply Kd.R_drew)); exact HO253.out) hg hat); have n3_ := Aside0.mk (hb); have n4_ := Aside0.mk (ho); clear HO_4; clear BK140; clear HO253; clear HB; clear HO_5; have HO_4 := n0_; have BK140 := n1_; have HO253 := n2_; have HB := n3_; have HO256 := n4_; clear n0_ n1_ n2_ n3_ n4_; clear ho hb hg hat))
         go_roundg kj4
         case measure => have := HK1.out; have := HJ4.out; omega
         case rel => exact ⟨(x4_1), (y254), (wrap64 (x6_1 + 1)), (by first | rfl | (simp; done) | (simp [*]; done)), H', ⟨by have := HK1.out; have := HJ4.out; omega⟩, ⟨by (with_reducible repeat (first | apply Kd.R_alloc | apply Kd.R_drewN | apply Kd.R_drew)); exact HO_4.out⟩, ⟨by (with_reducible repeat (first | apply Kd.R_alloc | apply Kd.R_drewN | apply Kd.R_drew)); exact Kd.R_mono HO256.out (fun _ hk => trivial)⟩, ⟨by repeat (first | (with_reducible first | exact HB.out | apply below_alloc | apply pw_below_drewN | apply below_drew1 | refine below_set ?_ GE140.out) | exact HB.out)⟩⟩
       ·
        rw [if_neg c116] at H
        have c116b0 : (((rd_T51 l0 x6_1).f0) == 1) = false := beq_eq_false_iff_ne.mpr c116
        have c116b1 : (((rd_T51 l0 x6_1).f0) != 1) = true := bne_iff_ne.mpr c116
        obtain ⟨y257, hy257⟩ : ∃ y_ : List Int, y_ = (([1] : List Int)) := ⟨_, rfl⟩
        replace H : (if x5_1.length + y257.length < 17592186044416 then (spec_List.l0 kj4 l0 x4_1 (x5_1 ++ y257) (wrap64 (x6_1 + 1))) else (none)) = some (r1, r2) := by first | (rw [hy257]; with_reducible exact H) | (have H2_ := (Option.bind_some _ _).symm.trans H; rw [hy257]; with_reducible exact H2_) | (have H2_ := (Option.bind_some _ _).symm.trans H; with_reducible exact H2_) | with_reducible exact H | (rw [hy257]; exact H) | exact H
        have Ny257 := Aside0.mk hy257
        clear hy257
        by_cases c144 : x5_1.length + y257.length < 17592186044416
        rotate_left
        ·
         rw [if_neg c144] at H
         exact absurd H (by simp)
        rw [if_pos c144] at H
        have LMc144 := Aside0.mk c144
        clear c144
        obtain ⟨y260, hy260⟩ : ∃ y_ : List Int, y_ = (x5_1 ++ y257) := ⟨_, rfl⟩
        replace H : (spec_List.l0 kj4 l0 x4_1 y260 (wrap64 (x6_1 + 1))) = some (r1, r2) := by first | (rw [hy260]; with_reducible exact H) | (have H2_ := (Option.bind_some _ _).symm.trans H; rw [hy260]; with_reducible exact H2_) | (have H2_ := (Option.bind_some _ _).symm.trans H; with_reducible exact H2_) | with_reducible exact H | (rw [hy260]; exact H) | exact H
        have Ny260 := Aside0.mk hy260
        clear hy260
        have H' := Aside0.mk H
        clear H
        have hcz145_0 : wc.cell? ⟨gb140, 0, none⟩ = some (.int .i64 ((rd_T51 l0 x6_1).f0)) := (blk_cell BK140.out 0).trans rfl
        have hcz145_1 : wc.cell? ⟨gb140, 1, none⟩ = some (.string ((rd_T51 l0 x6_1).f1)) := (blk_cell BK140.out 1).trans rfl
        have hcz145_2 : wc.cell? ⟨gb140, 2, none⟩ = some (.int .i64 ((rd_T51 l0 x6_1).f2)) := (blk_cell BK140.out 2).trans rfl
        have hfz145_0 := blk_frozen BK140.out 0
        have hfz145_1 := blk_frozen BK140.out 1
        have hfz145_2 := blk_frozen BK140.out 2
        go_wp2_with (first | ((with_reducible refine gate_dst (N := 66) rfl ?_); refine Kd.R_lit (Kd.int .i64) _ 3 ?hg (N := 66) ?hd (xs := ([1] : List Int)) (inner := [.int .i64 1]) (ok := fun _ => True) (okp := fun _ => True) ?hr ?hp (fun _ hk => hk) trivial (Below.refl _ _) (Nat.le_refl _) (by simp) ?_; (case hd => rfl); (case hg => rfl); (case hr => first | (go_simp; done) | (go_simp; rfl)); (case hp => exact (Reps.one (show Kd.M (Kd.int .i64) _ _ _ 1 [.int .i64 1] from rfl) (Reps.none _ _))); intro v258 w146 ho147 hb hg_ hnew_; clear hg_ hnew_; (first | rw [← Ny257.out] at ho147 | (simp only [Int.reduceToNat] at ho147; rw [← Ny257.out] at ho147)); have n0_ := Aside0.mk (Kd.R_below (by (with_reducible repeat (first | apply Kd.R_alloc | apply Kd.R_drewN | apply Kd.R_drew)); exact HO_4.out) hb); have n1_ := Aside0.mk (Kd.R_elder' (by (with_reducible repeat (first | apply Kd.R_alloc | apply Kd.R_drewN | apply Kd.R_drew)); exact HO_5.out) (Kd.R_base ho147) hb); have n2_ := Aside0.mk (Kd.R_lower (Kd.R_new' ho147 (Kd.R_lt (by (with_reducible repeat (first | apply Kd.R_alloc | apply Kd.R_drewN | apply Kd.R_drew)); exact HO_5.out))) (below_size (by repeat (first | (with_reducible first | exact HB.out | apply below_alloc | apply pw_below_drewN | apply below_drew1 | refine below_set ?_ GE140.out) | exact HB.out)))); have n3_ := Aside0.mk (blk_below (g := gb140) (o := .cells #[.int .i64 ((rd_T51 l0 x6_1).f0), .string ((rd_T51 l0 x6_1).f1), .int .i64 ((rd_T51 l0 x6_1).f2)] 51 (0, 0)) (by (with_reducible repeat (first | refine blk_drewN ?_ _ | refine blk_drew ?_ | refine blk_alloc ?_ _)); exact BK140.out) hb); have n4_ := Aside0.mk (below_step (by repeat (first | (with_reducible first | exact HB.out | apply below_alloc | apply pw_below_drewN | apply below_drew1 | refine below_set ?_ GE140.out) | exact HB.out)) hb); clear HO_4; clear HO_5; clear BK140; clear HB; have HO_4 := n0_; have HO_5 := n1_; have HO259 := n2_; have BK140 := n3_; have HB := n4_; clear n0_ n1_ n2_ n3_ n4_; clear hb ho147; obtain ⟨Ao149, co149, eo149⟩ := Kd.R_slice HO259.out; subst eo149) | ((with_reducible refine gate_builtin (b := .append) (xs := #[.tmp 64, .tmp 66]) rfl ?_); at_builtin; refine Kd.R_append_rows (Kd.int .i64) (w0 := w) w.heap.size rfl (.tmp 64) (.tmp 66) 40 3 (.int .i64 0) 8 rfl Tryd.underlying40 info3 rfl (by decide) (by omega) u5 x5_1 y257 _ _ _ (fun k_ => some k_ ≠ (.slice Ao149 y257.length co149 : Value).ownBlock) (fun _ => False) rfl rfl ?aO ?aR (fun _ _ h => h) (fun _ h => h.elim) ?aF ?aB ?aS ?aL ?_; (case aR => repeat (first | exact (Kd.R_reads' HO259.out).2.2 | (with_reducible refine Kd.C_alloc ?_ _) | (with_reducible refine Kd.C_drewN ?_ _) | (with_reducible refine Kd.C_drew ?_))); (case aB => exact (by repeat (first | (with_reducible first | exact HB.out | apply below_alloc | apply pw_below_drewN | apply below_drew1 | refine below_set ?_ GE140.out) | exact HB.out))); (case aF => exact (fun k_ hk => Kd.fresh' (Kd.R_lt (by (with_reducible repeat (first | apply Kd.R_alloc | apply Kd.R_drewN | apply Kd.R_drew)); exact HO259.out)) k_ hk)); (case aO => exact (by (with_reducible repeat (first | apply Kd.R_alloc | apply Kd.R_drewN | apply Kd.R_drew)); exact Kd.R_mono HO_5.out (fun _ hk => hk.2))); (case aS => exact (below_size (by repeat (first | (with_reducible first | exact HB.out | apply below_alloc | apply pw_below_drewN | apply below_drew1 | refine below_set ?_ GE140.out) | exact HB.out)))); (case aL => have := LMc144.out; omega); intro v261 w148 ho hb hg hat; rw [← Ny260.out] at ho; have n0_ := Aside0.mk (Kd.R_over' (by (with_reducible repeat (first | apply Kd.R_alloc | apply Kd.R_drewN | apply Kd.R_drew)); exact HO_4.out) (Kd.R_typed (by (with_reducible repeat (first | apply Kd.R_alloc | apply Kd.R_drewN | apply Kd.R_drew)); exact HO_5.out)) (by decide) hg); have n1_ := Aside0.mk (blk_grown (g := gb140) (o := .cells #[.int .i64 ((rd_T51 l0 x6_1).f0), .string ((rd_T51 l0 x6_1).f1), .int .i64 ((rd_T51 l0 x6_1).f2)] 51 (0, 0)) (by (with_reducible repeat (first | refine blk_drewN ?_ _ | refine blk_drew ?_ | refine blk_alloc ?_ _)); exact BK140.out) hg (Kd.R_ne HO_5.out BK140.out (by decide))); have n2_ := Aside0.mk (Kd.R_after (ok := (fun _ => True)) (by (with_reducible repeat (first | apply Kd.R_alloc | apply Kd.R_drewN | apply Kd.R_drew)); exact HO259.out) hg hat); have n3_ := Aside0.mk (hb); have n4_ := Aside0.mk (ho); clear HO_4; clear BK140; clear HO259; clear HB; clear HO_5; have HO_4 := n0_; have BK140 := n1_; have HO259 := n2_; have HB := n3_; have HO262 := n4_; clear n0_ n1_ n2_ n3_ n4_; clear ho hb hg hat))
        go_roundg kj4
        case measure => have := HK1.out; have := HJ4.out; omega
        case rel => exact ⟨(x4_1), (y260), (wrap64 (x6_1 + 1)), (by first | rfl | (simp; done) | (simp [*]; done)), H', ⟨by have := HK1.out; have := HJ4.out; omega⟩, ⟨by (with_reducible repeat (first | apply Kd.R_alloc | apply Kd.R_drewN | apply Kd.R_drew)); exact HO_4.out⟩, ⟨by (with_reducible repeat (first | apply Kd.R_alloc | apply Kd.R_drewN | apply Kd.R_drew)); exact Kd.R_mono HO262.out (fun _ hk => trivial)⟩, ⟨by repeat (first | (with_reducible first | exact HB.out | apply below_alloc | apply pw_below_drewN | apply below_drew1 | refine below_set ?_ GE140.out) | exact HB.out)⟩⟩
   ·
    rw [if_neg c2] at H
    have c2b0 : decide (x6_1 < (l0.length : Int)) = false := decide_eq_false c2
    clear c2
    simp only [Option.some.injEq, Prod.mk.injEq] at H
    obtain ⟨rfl, rfl⟩ := H
    go_wp2
    go_ret2
    exact ⟨_, _, by first | rfl | (simp [errW_none, errW_some] <;> rfl) | (simp [*, errW_none, errW_some] <;> rfl), by (with_reducible repeat (first | apply Kd.R_alloc | apply Kd.R_drewN | apply Kd.R_drew)); exact HO_4.out, by (with_reducible repeat (first | apply Kd.R_alloc | apply Kd.R_drewN | apply Kd.R_drew)); exact HO_5.out, by repeat (first | (with_reducible first | exact HB.out | apply below_alloc | apply pw_below_drewN | apply below_drew1) | exact HB.out)⟩


end Go.Proofs.YtcnbnljlopopkaaDoor.PFnListTurned

-- thin
