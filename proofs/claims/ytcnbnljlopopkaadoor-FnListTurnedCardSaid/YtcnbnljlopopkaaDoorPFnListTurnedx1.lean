-- Written by hprint.py (this session's program, over the kit's printing program, with this session's own contracts in it). Not trusted: Lean checks it.
import Derived.Test.YtcnbnljlopopkaaDoorPFnListTurnedx0
namespace Go.Proofs.YtcnbnljlopopkaaDoor.PFnListTurned
open Go.RowKit Go.Proofs.YtcnbnljlopopkaaDoorW.PrintWords Go.Proofs.YtcnbnljlopopkaaDoorW.PrintLast Go.Proofs.YtcnbnljlopopkaaDoorW.PrintMore
attribute [local go_sem] max2_int min2_int max_two min_two max_three min_three max_four min_four   -- for this text's walks alone
set_option linter.unusedVariables false
set_option linter.unusedSimpArgs false

/-! ### laws_zzFits6: function 25 -/
def laws_zzFits6.f (a0_0 : Int) (a0_1 : ByteArray) (a0_2 : Int) : Option (Bool) := if (a0_1.size : Int) > 2147483647 then (some false) else (some true)
set_option maxHeartbeats 8000000 in
set_option maxRecDepth 100000 in
theorem laws_zzFits6.calls (a0_0 : Int) (a0_1 : ByteArray) (a0_2 : Int) (r : Bool) (w : World) (h : laws_zzFits6.f a0_0 a0_1 a0_2 = some r) :
  Calls Tryd.prog 25 #[.agg #[.int .i64 a0_0, .string a0_1, .int .i64 a0_2]] w fun e w' => e = .returned (.bool r) ∧ Below w.heap.size w w' := by
 have hu51 := Tryd.underlying51
 have HB := Aside0.mk (Below.refl w.heap.size w)
 have H : (if (a0_1.size : Int) > 2147483647 then (some false) else (some true)) = some r := h
 clear h
 by_cases c2 : (a0_1.size : Int) > 2147483647
 ·
  rw [if_pos c2] at H
  have c2b0 : decide (2147483647 < (a0_1.size : Int)) = true := decide_eq_true c2
  have c2b1 : decide (2147483647 < a0_1.size) = true := decide_eq_true (by omega)
  clear c2
  obtain rfl := Option.some.inj H
  go_enter Tryd.func25, Tryd.ntmps25
  go_wp2_with (first | ((with_reducible refine gate_dst (N := 1) rfl ?_); refine box_event ?hg (N := 1) ?hd (cs := #[.int .i64 a0_0, .string a0_1, .int .i64 a0_2]) (t := 51) ?hr ?_; (case hd => rfl); (case hg => rfl); (case hr => first | (go_simp; done) | (go_simp; rfl)); intro gb101 hg w3 hbox hb; have n0_ := Aside0.mk (below_step (by repeat (first | (with_reducible first | exact HB.out | apply below_alloc | apply pw_below_drewN | apply below_drew1) | exact HB.out)) hb); have n1_ := Aside0.mk (hbox); have n2_ := Aside0.mk ((by rw [hg]; exact (below_size (by repeat (first | (with_reducible first | exact HB.out | apply below_alloc | apply pw_below_drewN | apply below_drew1) | exact HB.out))) : w.heap.size ≤ gb101)); have n3_ := Aside0.mk ((by rw [hg]; exact (below_size (by repeat (first | (with_reducible first | exact HB.out | apply below_alloc | apply pw_below_drewN | apply below_drew1) | exact HB.out))) : w.heap.size ≤ gb101)); clear HB; have HB := n0_; have BK101 := n1_; have GW101 := n2_; have GE101 := n3_; clear n0_ n1_ n2_ n3_; clear hb hbox hg; have hcz4_0 : w3.cell? ⟨gb101, 0, none⟩ = some (.int .i64 a0_0) := (blk_cell BK101.out 0).trans rfl; have hcz4_1 : w3.cell? ⟨gb101, 1, none⟩ = some (.string a0_1) := (blk_cell BK101.out 1).trans rfl; have hcz4_2 : w3.cell? ⟨gb101, 2, none⟩ = some (.int .i64 a0_2) := (blk_cell BK101.out 2).trans rfl; have hfz4_0 := blk_frozen BK101.out 0; have hfz4_1 := blk_frozen BK101.out 1; have hfz4_2 := blk_frozen BK101.out 2))
  go_ret
  exact ⟨by first | rfl | (simp [errW_none, errW_some] <;> rfl) | (simp [*, errW_none, errW_some] <;> rfl) | (simp [errW_none, errW_some]; generalize ByteArray.toList _ = l_; cases l_ <;> rfl), by repeat (first | (with_reducible first | exact HB.out | apply below_alloc | apply pw_below_drewN | apply below_drew1 | refine below_set ?_ GE101.out) | exact HB.out)⟩
 ·
  rw [if_neg c2] at H
  have c2b0 : decide (2147483647 < (a0_1.size : Int)) = false := decide_eq_false c2
  have c2b1 : decide (2147483647 < a0_1.size) = false := decide_eq_false (by omega)
  clear c2
  obtain rfl := Option.some.inj H
  go_enter Tryd.func25, Tryd.ntmps25
  go_wp2_with (first | ((with_reducible refine gate_dst (N := 1) rfl ?_); refine box_event ?hg (N := 1) ?hd (cs := #[.int .i64 a0_0, .string a0_1, .int .i64 a0_2]) (t := 51) ?hr ?_; (case hd => rfl); (case hg => rfl); (case hr => first | (go_simp; done) | (go_simp; rfl)); intro gb101 hg w5 hbox hb; have n0_ := Aside0.mk (below_step (by repeat (first | (with_reducible first | exact HB.out | apply below_alloc | apply pw_below_drewN | apply below_drew1) | exact HB.out)) hb); have n1_ := Aside0.mk (hbox); have n2_ := Aside0.mk ((by rw [hg]; exact (below_size (by repeat (first | (with_reducible first | exact HB.out | apply below_alloc | apply pw_below_drewN | apply below_drew1) | exact HB.out))) : w.heap.size ≤ gb101)); have n3_ := Aside0.mk ((by rw [hg]; exact (below_size (by repeat (first | (with_reducible first | exact HB.out | apply below_alloc | apply pw_below_drewN | apply below_drew1) | exact HB.out))) : w.heap.size ≤ gb101)); clear HB; have HB := n0_; have BK101 := n1_; have GW101 := n2_; have GE101 := n3_; clear n0_ n1_ n2_ n3_; clear hb hbox hg; have hcz6_0 : w5.cell? ⟨gb101, 0, none⟩ = some (.int .i64 a0_0) := (blk_cell BK101.out 0).trans rfl; have hcz6_1 : w5.cell? ⟨gb101, 1, none⟩ = some (.string a0_1) := (blk_cell BK101.out 1).trans rfl; have hcz6_2 : w5.cell? ⟨gb101, 2, none⟩ = some (.int .i64 a0_2) := (blk_cell BK101.out 2).trans rfl; have hfz6_0 := blk_frozen BK101.out 0; have hfz6_1 := blk_frozen BK101.out 1; have hfz6_2 := blk_frozen BK101.out 2))
  go_ret
  exact ⟨by first | rfl | (simp [errW_none, errW_some] <;> rfl) | (simp [*, errW_none, errW_some] <;> rfl) | (simp [errW_none, errW_some]; generalize ByteArray.toList _ = l_; cases l_ <;> rfl), by repeat (first | (with_reducible first | exact HB.out | apply below_alloc | apply pw_below_drewN | apply below_drew1 | refine below_set ?_ GE101.out) | exact HB.out)⟩

/-! ### laws_zzFits5: function 7 -/
def laws_zzFits5.l0 : Nat → List (S51) → Int → Int → Option (Bool)
 | 0, _, _, _ => none
 | k + 1, x8, x9, x10 => if x10 < x9 then (if 0 ≤ x10 then (if x10 < (x8.length : Int) then ((laws_zzFits6.f ((rd_T51 x8 x10).f0) ((rd_T51 x8 x10).f1) ((rd_T51 x8 x10).f2)).bind fun t104 => (if t104 = true then (laws_zzFits5.l0 k x8 x9 (wrap64 (x10 + 1))) else (some false))) else (none)) else (none)) else (some true)
def laws_zzFits5.f (k : Nat) (l0 : List (S51)) : Option (Bool) := if (l0.length : Int) > 2147483647 then (some false) else (laws_zzFits5.l0 k l0 (l0.length : Int) 0)
theorem laws_zzFits5.mono_l : ∀ k, (∀ y0 y1 y2, LeO (laws_zzFits5.l0 k y0 y1 y2) (laws_zzFits5.l0 (k + 1) y0 y1 y2))
 | 0 => fun _ _ _ r h => by simp [laws_zzFits5.l0] at h
 | k + 1 => by
  have ih0 := laws_zzFits5.mono_l k
  ·
   intro y0 y1 y2
   unfold laws_zzFits5.l0
   repeat' first
   | (with_reducible exact ih0 _ _ _)
   | (with_reducible exact LeO.refl _)
   | (with_reducible exact LeO.none _)
   | (with_reducible refine LeO.ite ?_ ?_)
   | (with_reducible refine LeO.bind ?_ (fun _ => ?_))
   | exact ih0 _ _ _
   | exact LeO.none _
   | refine LeO.ite ?_ ?_
   | refine LeO.bind ?_ (fun _ => ?_)
theorem laws_zzFits5.mono : ∀ a0 k, LeO (laws_zzFits5.f k a0) (laws_zzFits5.f (k + 1) a0) := by
 intro a0 k
 have ih0 := laws_zzFits5.mono_l k
 unfold laws_zzFits5.f
 repeat' first
   | (with_reducible exact ih0 _ _ _)
   | (with_reducible exact LeO.refl _)
   | (with_reducible exact LeO.none _)
   | (with_reducible refine LeO.ite ?_ ?_)
   | (with_reducible refine LeO.bind ?_ (fun _ => ?_))
   | exact ih0 _ _ _
   | exact LeO.none _
   | refine LeO.ite ?_ ?_
   | refine LeO.bind ?_ (fun _ => ?_)
set_option maxHeartbeats 8000000 in
set_option maxRecDepth 100000 in
theorem laws_zzFits5.calls (k : Nat) (A0 : Option Addr) (c0 : Nat) (l0 : List (S51)) (r : Bool) (w : World) (hr0 : Kd.C k51 w A0 l0.length l0) (hc0 : l0.length ≤ c0) (h : laws_zzFits5.f k l0 = some r) :
  Calls Tryd.prog 7 #[.slice A0 l0.length c0] w fun e w' => e = .returned (.bool r) ∧ Below w.heap.size w w' := by
 have hu51 := Tryd.underlying51
 have HR0 := Aside0.mk hr0
 have HC0 := Aside0.mk hc0
 clear hr0 hc0
 have HB := Aside0.mk (Below.refl w.heap.size w)
 have H : (if (l0.length : Int) > 2147483647 then (some false) else (laws_zzFits5.l0 k l0 (l0.length : Int) 0)) = some r := h
 clear h
 by_cases c2 : (l0.length : Int) > 2147483647
 ·
  rw [if_pos c2] at H
  have c2b0 : decide (2147483647 < (l0.length : Int)) = true := decide_eq_true c2
  have c2b1 : decide (2147483647 < l0.length) = true := decide_eq_true (by omega)
  clear c2
  obtain rfl := Option.some.inj H
  go_enter Tryd.func7, Tryd.ntmps7
  go_wp2
  go_ret
  exact ⟨by first | rfl | (simp [errW_none, errW_some] <;> rfl) | (simp [*, errW_none, errW_some] <;> rfl) | (simp [errW_none, errW_some]; generalize ByteArray.toList _ = l_; cases l_ <;> rfl), by repeat (first | (with_reducible first | exact HB.out | apply below_alloc | apply pw_below_drewN | apply below_drew1) | exact HB.out)⟩
 ·
  rw [if_neg c2] at H
  have c2b0 : decide (2147483647 < (l0.length : Int)) = false := decide_eq_false c2
  have c2b1 : decide (2147483647 < l0.length) = false := decide_eq_false (by omega)
  clear c2
  have H' := Aside0.mk H
  clear H
  go_enter Tryd.func7, Tryd.ntmps7
  go_wp2
  go_loopg [10] k (fun kq v10 w' => ∃ (x10_1 : Int), v10 = .int .i64 x10_1 ∧ Aside0 (laws_zzFits5.l0 kq l0 (l0.length : Int) x10_1 = some r) ∧ Aside0 (kq ≤ k) ∧ Aside0 (Below w.heap.size w w'))
  case atStart => exact ⟨(0), (by first | rfl | (simp; done) | (simp [*]; done)), H', ⟨Nat.le_refl _⟩, ⟨by repeat (first | (with_reducible first | exact HB.out | apply below_alloc | apply pw_below_drewN | apply below_drew1) | exact HB.out)⟩⟩
  case round =>
   clear H'
   try clear c2
   try clear c2b0
   try clear c2b1
   try clear p2
   obtain ⟨x10_1, rfl, HA, HK1, HB⟩ := hrel
   cases gk with
   | zero => exact absurd HA.out (by simp [laws_zzFits5.l0])
   | succ k1 =>
    have H := HA.out
    clear HA
    simp only [laws_zzFits5.l0] at H
    by_cases c3 : x10_1 < (l0.length : Int)
    ·
     rw [if_pos c3] at H
     have c3b0 : decide (x10_1 < (l0.length : Int)) = true := decide_eq_true c3
     clear c3
     by_cases c4 : 0 ≤ x10_1
     ·
      rw [if_pos c4] at H
      have c4b0 : decide (0 ≤ x10_1) = true := decide_eq_true c4
      clear c4
      by_cases c5 : x10_1 < (l0.length : Int)
      ·
       rw [if_pos c5] at H
       have c5b0 : decide (x10_1 < (l0.length : Int)) = true := decide_eq_true c5
       clear c5
       replace H := Option.bind_eq_some_iff.mp H
       obtain ⟨t104, A60, H⟩ := H
       replace H : (if t104 = true then (laws_zzFits5.l0 k1 l0 (l0.length : Int) (wrap64 (x10_1 + 1))) else (some false)) = some r := H
       have A6 := Aside0.mk A60
       clear A60
       by_cases c7 : t104 = true
       ·
        subst c7
        have H1 : (laws_zzFits5.l0 k1 l0 (l0.length : Int) (wrap64 (x10_1 + 1))) = some r := by rw [if_pos rfl] at H; exact H
        clear H
        have H := H1
        clear H1
        have H' := Aside0.mk H
        clear H
        have p102 : 0 ≤ (x10_1 : Int) := of_decide_eq_true (by first | (with_reducible assumption) | assumption)
        have q102 : x10_1 < (l0.length : Int) := of_decide_eq_true (by first | (with_reducible assumption) | assumption)
        obtain ⟨ad102, e102, hx102_0, hx102_1, hx102_2⟩ := at_T51 HR0.out x10_1 p102 q102
        cases e102
        replace hx102_0 := (HB.out.cell (World.block_lt_of_cell? w _ hx102_0)).trans hx102_0
        replace hx102_1 := (HB.out.cell (World.block_lt_of_cell? w _ hx102_1)).trans hx102_1
        replace hx102_2 := (HB.out.cell (World.block_lt_of_cell? w _ hx102_2)).trans hx102_2
        replace p102 := eq_true p102
        replace q102 := eq_true q102
        go_wp2_with (first | ((with_reducible refine gate_dst (N := 4) rfl ?_); refine box_event ?hg (N := 4) ?hd (cs := #[.int .i64 0, .string (⟨#[]⟩ : ByteArray), .int .i64 0]) (t := 51) ?hr ?_; (case hd => rfl); (case hg => rfl); (case hr => first | (go_simp; done) | (go_simp; rfl)); intro gb103 hg w8 hbox hb; have n0_ := Aside0.mk (below_step (by repeat (first | (with_reducible first | exact HB.out | apply below_alloc | apply pw_below_drewN | apply below_drew1) | exact HB.out)) hb); have n1_ := Aside0.mk (hbox); have n2_ := Aside0.mk ((by rw [hg]; exact (below_size (by repeat (first | (with_reducible first | exact HB.out | apply below_alloc | apply pw_below_drewN | apply below_drew1) | exact HB.out))) : w.heap.size ≤ gb103)); have n3_ := Aside0.mk ((by rw [hg]; exact (below_size (by repeat (first | (with_reducible first | exact HB.out | apply below_alloc | apply pw_below_drewN | apply below_drew1) | exact HB.out))) : w.heap.size ≤ gb103)); clear HB; have HB := n0_; have BK103 := n1_; have GW103 := n2_; have GE103 := n3_; clear n0_ n1_ n2_ n3_; clear hb hbox hg; have hcz9_0 : w8.cell? ⟨gb103, 0, none⟩ = some (.int .i64 0) := (blk_cell BK103.out 0).trans rfl; have hcz9_1 : w8.cell? ⟨gb103, 1, none⟩ = some (.string (⟨#[]⟩ : ByteArray)) := (blk_cell BK103.out 1).trans rfl; have hcz9_2 : w8.cell? ⟨gb103, 2, none⟩ = some (.int .i64 0) := (blk_cell BK103.out 2).trans rfl; have hfz9_0 := blk_frozen BK103.out 0; have hfz9_1 := blk_frozen BK103.out 1; have hfz9_2 := blk_frozen BK103.out 2) | ((with_reducible refine gate_callee (f := 25) rfl ?_); refine goesL_ (some 15) rfl rfl Tryd.func25 (by kernel_rfl) rfl #[.agg #[.int .i64 ((rd_T51 l0 x10_1).f0), .string ((rd_T51 l0 x10_1).f1), .int .i64 ((rd_T51 l0 x10_1).f2)]] rfl (by (try simp only [List.map_toArray, List.map_cons, List.map_nil]); first | done | rfl | (simp only [List.length_drop, List.length_take]; rfl)) ?_; (with_reducible refine (laws_zzFits6.calls ((rd_T51 l0 x10_1).f0) ((rd_T51 l0 x10_1).f1) ((rd_T51 l0 x10_1).f2) true _ A6.out).mono ?_); rintro e w10 ⟨rfl, hb⟩; refine ⟨_, rfl, ?_⟩; have n0_ := Aside0.mk (blk_below (g := gb103) (o := .cells #[.int .i64 ((rd_T51 l0 x10_1).f0), .string ((rd_T51 l0 x10_1).f1), .int .i64 ((rd_T51 l0 x10_1).f2)] 51 (0, 0)) (by (with_reducible repeat (first | refine blk_drewN ?_ _ | refine blk_drew ?_ | refine blk_alloc ?_ _)); refine blk_put (cs := #[.int .i64 ((rd_T51 l0 x10_1).f0), .string ((rd_T51 l0 x10_1).f1), .int .i64 0]) ?_ 2 _ rfl; (with_reducible repeat (first | refine blk_drewN ?_ _ | refine blk_drew ?_ | refine blk_alloc ?_ _)); refine blk_put (cs := #[.int .i64 ((rd_T51 l0 x10_1).f0), .string (⟨#[]⟩ : ByteArray), .int .i64 0]) ?_ 1 _ rfl; (with_reducible repeat (first | refine blk_drewN ?_ _ | refine blk_drew ?_ | refine blk_alloc ?_ _)); refine blk_put (cs := #[.int .i64 0, .string (⟨#[]⟩ : ByteArray), .int .i64 0]) ?_ 0 _ rfl; (with_reducible repeat (first | refine blk_drewN ?_ _ | refine blk_drew ?_ | refine blk_alloc ?_ _)); exact BK103.out) hb); have n1_ := Aside0.mk (below_step (by repeat (first | (with_reducible first | exact HB.out | apply below_alloc | apply pw_below_drewN | apply below_drew1 | refine below_set ?_ GE103.out) | exact HB.out)) hb); clear BK103; clear HB; have BK103 := n0_; have HB := n1_; clear n0_ n1_; (try clear hb); (try clear hb2); (try clear hk); (try clear hi)))
        go_roundg k1
        case measure => have := HK1.out; omega
        case rel => exact ⟨(wrap64 (x10_1 + 1)), (by first | rfl | (simp; done) | (simp [*]; done)), H', ⟨by have := HK1.out; omega⟩, ⟨by repeat (first | (with_reducible first | exact HB.out | apply below_alloc | apply pw_below_drewN | apply below_drew1 | refine below_set ?_ GE103.out) | exact HB.out)⟩⟩
       ·
        replace c7 := Bool.eq_false_iff.mpr c7
        subst c7
        have H1 : (some false) = some r := by rw [if_neg (show ¬ (false = true) by decide)] at H; exact H
        clear H
        have H := H1
        clear H1
        obtain rfl := Option.some.inj H
        have p102 : 0 ≤ (x10_1 : Int) := of_decide_eq_true (by first | (with_reducible assumption) | assumption)
        have q102 : x10_1 < (l0.length : Int) := of_decide_eq_true (by first | (with_reducible assumption) | assumption)
        obtain ⟨ad102, e102, hx102_0, hx102_1, hx102_2⟩ := at_T51 HR0.out x10_1 p102 q102
        cases e102
        replace hx102_0 := (HB.out.cell (World.block_lt_of_cell? w _ hx102_0)).trans hx102_0
        replace hx102_1 := (HB.out.cell (World.block_lt_of_cell? w _ hx102_1)).trans hx102_1
        replace hx102_2 := (HB.out.cell (World.block_lt_of_cell? w _ hx102_2)).trans hx102_2
        replace p102 := eq_true p102
        replace q102 := eq_true q102
        go_wp2_with (first | ((with_reducible refine gate_dst (N := 4) rfl ?_); refine box_event ?hg (N := 4) ?hd (cs := #[.int .i64 0, .string (⟨#[]⟩ : ByteArray), .int .i64 0]) (t := 51) ?hr ?_; (case hd => rfl); (case hg => rfl); (case hr => first | (go_simp; done) | (go_simp; rfl)); intro gb103 hg w11 hbox hb; have n0_ := Aside0.mk (below_step (by repeat (first | (with_reducible first | exact HB.out | apply below_alloc | apply pw_below_drewN | apply below_drew1) | exact HB.out)) hb); have n1_ := Aside0.mk (hbox); have n2_ := Aside0.mk ((by rw [hg]; exact (below_size (by repeat (first | (with_reducible first | exact HB.out | apply below_alloc | apply pw_below_drewN | apply below_drew1) | exact HB.out))) : w.heap.size ≤ gb103)); have n3_ := Aside0.mk ((by rw [hg]; exact (below_size (by repeat (first | (with_reducible first | exact HB.out | apply below_alloc | apply pw_below_drewN | apply below_drew1) | exact HB.out))) : w.heap.size ≤ gb103)); clear HB; have HB := n0_; have BK103 := n1_; have GW103 := n2_; have GE103 := n3_; clear n0_ n1_ n2_ n3_; clear hb hbox hg; have hcz12_0 : w11.cell? ⟨gb103, 0, none⟩ = some (.int .i64 0) := (blk_cell BK103.out 0).trans rfl; have hcz12_1 : w11.cell? ⟨gb103, 1, none⟩ = some (.string (⟨#[]⟩ : ByteArray)) := (blk_cell BK103.out 1).trans rfl; have hcz12_2 : w11.cell? ⟨gb103, 2, none⟩ = some (.int .i64 0) := (blk_cell BK103.out 2).trans rfl; have hfz12_0 := blk_frozen BK103.out 0; have hfz12_1 := blk_frozen BK103.out 1; have hfz12_2 := blk_frozen BK103.out 2) | ((with_reducible refine gate_callee (f := 25) rfl ?_); refine goesL_ (some 15) rfl rfl Tryd.func25 (by kernel_rfl) rfl #[.agg #[.int .i64 ((rd_T51 l0 x10_1).f0), .string ((rd_T51 l0 x10_1).f1), .int .i64 ((rd_T51 l0 x10_1).f2)]] rfl (by (try simp only [List.map_toArray, List.map_cons, List.map_nil]); first | done | rfl | (simp only [List.length_drop, List.length_take]; rfl)) ?_; (with_reducible refine (laws_zzFits6.calls ((rd_T51 l0 x10_1).f0) ((rd_T51 l0 x10_1).f1) ((rd_T51 l0 x10_1).f2) false _ A6.out).mono ?_); rintro e w13 ⟨rfl, hb⟩; refine ⟨_, rfl, ?_⟩; have n0_ := Aside0.mk (blk_below (g := gb103) (o := .cells #[.int .i64 ((rd_T51 l0 x10_1).f0), .string ((rd_T51 l0 x10_1).f1), .int .i64 ((rd_T51 l0 x10_1).f2)] 51 (0, 0)) (by (with_reducible repeat (first | refine blk_drewN ?_ _ | refine blk_drew ?_ | refine blk_alloc ?_ _)); refine blk_put (cs := #[.int .i64 ((rd_T51 l0 x10_1).f0), .string ((rd_T51 l0 x10_1).f1), .int .i64 0]) ?_ 2 _ rfl; (with_reducible repeat (first | refine blk_drewN ?_ _ | refine blk_drew ?_ | refine blk_alloc ?_ _)); refine blk_put (cs := #[.int .i64 ((rd_T51 l0 x10_1).f0), .string (⟨#[]⟩ : ByteArray), .int .i64 0]) ?_ 1 _ rfl; (with_reducible repeat (first | refine blk_drewN ?_ _ | refine blk_drew ?_ | refine blk_alloc ?_ _)); refine blk_put (cs := #[.int .i64 0, .string (⟨#[]⟩ : ByteArray), .int .i64 0]) ?_ 0 _ rfl; (with_reducible repeat (first | refine blk_drewN ?_ _ | refine blk_drew ?_ | refine blk_alloc ?_ _)); exact BK103.out) hb); have n1_ := Aside0.mk (below_step (by repeat (first | (with_reducible first | exact HB.out | apply below_alloc | apply pw_below_drewN | apply below_drew1 | refine below_set ?_ GE103.out) | exact HB.out)) hb); clear BK103; clear HB; have BK103 := n0_; have HB := n1_; clear n0_ n1_; (try clear hb); (try clear hb2); (try clear hk); (try clear hi)))
        go_ret
        exact ⟨by first | rfl | (simp [errW_none, errW_some] <;> rfl) | (simp [*, errW_none, errW_some] <;> rfl) | (simp [errW_none, errW_some]; generalize ByteArray.toList _ = l_; cases l_ <;> rfl), by repeat (first | (with_reducible first | exact HB.out | apply below_alloc | apply pw_below_drewN | apply below_drew1 | refine below_set ?_ GE103.out) | exact HB.out)⟩
      ·
       rw [if_neg c5] at H
       exact absurd H (by simp)
     ·
      rw [if_neg c4] at H
      exact absurd H (by simp)
    ·
     rw [if_neg c3] at H
     have c3b0 : decide (x10_1 < (l0.length : Int)) = false := decide_eq_false c3
     clear c3
     obtain rfl := Option.some.inj H
     go_wp2
     go_ret
     exact ⟨by first | rfl | (simp [errW_none, errW_some] <;> rfl) | (simp [*, errW_none, errW_some] <;> rfl) | (simp [errW_none, errW_some]; generalize ByteArray.toList _ = l_; cases l_ <;> rfl), by repeat (first | (with_reducible first | exact HB.out | apply below_alloc | apply pw_below_drewN | apply below_drew1) | exact HB.out)⟩

-- NOT PRINTED: function 58 (gsl_newLevel_int)

-- NOT PRINTED: function 47 (gsl_NewSublist_int)

/-! ### impl_ListKinds: function 24 -/
-- WORLD YtcnbnljlopopkaaDoor.LsC.GLaid
section
open _root_.Go.Proofs.YtcnbnljlopopkaaDoor.LsA _root_.Go.Proofs.YtcnbnljlopopkaaDoor.LsB _root_.Go.Proofs.YtcnbnljlopopkaaDoor.LsC _root_.Go.Proofs.YtcnbnljlopopkaaDoor.LsD
def impl_ListKinds.ts (l : List S51) : List Dd := l.map (fun a => (a.f0, a.f1, a.f2))
def impl_ListKinds.gB (E : List Ent) (d : Dd) : Bool := decide (d.2.1.size ≤ 100000) && (Lit.int .i64 d.2.2).wf && (!decide (d.1 = 0) || (Road.formedB (Road.toks [] (Road.bl d.2.1)) && !inE E (d.2.1, d.2.2)))
def impl_ListKinds.gsB : List Ent → List Dd → Bool
 | _, [] => true
 | E, d :: ds => impl_ListKinds.gB E d && impl_ListKinds.gsB (stepK E d).1 ds
theorem impl_ListKinds.gB_iff {E : List Ent} {d : Dd} : impl_ListKinds.gB E d = true ↔ GoodK E d := by
 unfold impl_ListKinds.gB
 constructor
 ·
  intro h
  simp only [Bool.and_eq_true, decide_eq_true_eq, Bool.or_eq_true, Bool.not_eq_true', decide_eq_false_iff_not] at h
  obtain ⟨⟨h1, h2⟩, h4⟩ := h
  refine ⟨h1, h2, fun e => ?_⟩
  rcases h4 with h4 | ⟨h4, h5⟩
  ·
   exact absurd e h4
  ·
   exact ⟨h4, fun hm => by rw [inE_iff.2 hm] at h5; exact absurd h5 (by simp)⟩
 ·
  intro ⟨h1, h2, h4⟩
  simp only [Bool.and_eq_true, decide_eq_true_eq, Bool.or_eq_true, Bool.not_eq_true', decide_eq_false_iff_not]
  refine ⟨⟨h1, h2⟩, ?_⟩
  by_cases e : d.1 = 0
  ·
   refine .inr ⟨(h4 e).1, ?_⟩
   cases hi : inE E (d.2.1, d.2.2) with
   | true => exact absurd (inE_iff.1 hi) (h4 e).2
   | false => rfl
  ·
   exact .inl e
theorem impl_ListKinds.gsB_iff : ∀ {ds : List Dd} {E : List Ent}, impl_ListKinds.gsB E ds = true ↔ GoodsK E ds
 | [], E => by simp [impl_ListKinds.gsB, GoodsK]
 | d :: ds, E => by
  rw [impl_ListKinds.gsB, GoodsK, Bool.and_eq_true, impl_ListKinds.gB_iff, impl_ListKinds.gsB_iff]
def impl_ListKinds.f (l0 : List (S51)) : Option (List Int × Int) := if impl_ListKinds.gsB [] (impl_ListKinds.ts l0) = true ∧ l0.length < 100000 then some ((runK [] (impl_ListKinds.ts l0)).2, ((runK [] (impl_ListKinds.ts l0)).1.length : Int)) else none
theorem impl_ListKinds.tsAt {w : World} {A : Option Addr} {l : List S51} (h : Kd.C k51 w A l.length l) : Kd.C kDd w A (impl_ListKinds.ts l).length (impl_ListKinds.ts l) := by
 obtain ⟨h1, h2, h3⟩ := h
 have hl : (impl_ListKinds.ts l).length = l.length := List.length_map _
 refine ⟨rfl, by rw [hl]; exact h2, fun hn => ?_⟩
 obtain ⟨ad, e, hc⟩ := h3 (by rw [hl] at hn; exact hn)
 refine ⟨ad, e, fun j p hj => ?_⟩
 unfold impl_ListKinds.ts at hj
 rw [List.getElem?_map] at hj
 obtain ⟨y, hy, rfl⟩ := Option.map_eq_some_iff.1 hj
 exact hc j y hy
theorem impl_ListKinds.calls (A0 : Option Addr) (c0 : Nat) (l0 : List (S51)) (r1 : List Int) (r2 : Int) (w : World) (hr0 : Kd.C k51 w A0 l0.length l0) (hc0 : l0.length ≤ c0) (h : impl_ListKinds.f l0 = some (r1, r2)) (hE : GLaid w) :
  Calls Tryd.prog 24 #[.slice A0 l0.length c0] w fun e w' => ∃ v0_ : Value, e = .returned (.tuple #[v0_, .int .i64 r2]) ∧ Kd.R (Kd.int .i64) 3 w' w.heap.size (fun _ => True) v0_ r1 ∧ Below w.heap.size w w' := by
 unfold impl_ListKinds.f at h
 split at h
 ·
  rename_i hc
  injection h with h
  injection h with h1 h2
  subst h1
  subst h2
  have hl : (impl_ListKinds.ts l0).length = l0.length := List.length_map _
  have := kinds_calls (impl_ListKinds.ts l0) A0 c0 w (impl_ListKinds.tsAt hr0) (by rw [hl]; exact hc0) hE (impl_ListKinds.gsB_iff.1 hc.1) (by rw [hl]; exact hc.2)
  rw [hl] at this
  exact this
 ·
  exact absurd h (by simp)
end


/-! ### laws_awakeList: function 8 -/
def laws_awakeList.f  : Option (Bool) := (impl_ListKinds.f (([(⟨0, (⟨#[97, 46, 42]⟩ : ByteArray), 3⟩ : S51)] : List (S51)))).bind fun bt115 => (if (bt115.1.length : Int) = 1 then (if 0 < (bt115.1.length : Int) then (if (rd bt115.1 0) = 0 then (some (bt115.2 == 1)) else (some false)) else (none)) else (some false))
set_option maxHeartbeats 8000000 in
set_option maxRecDepth 100000 in
theorem laws_awakeList.calls  (r : Bool) (w : World) (h : laws_awakeList.f  = some r) (hE_ : Go.Proofs.YtcnbnljlopopkaaDoor.LsC.GLaid w) :
  Calls Tryd.prog 8 #[] w fun e w' => e = .returned (.bool r) ∧ Below w.heap.size w w' := by
 have HE_ := Aside0.mk hE_
 clear hE_
 have hu51 := Tryd.underlying51
 have HB := Aside0.mk (Below.refl w.heap.size w)
 have H : ((impl_ListKinds.f (([(⟨0, (⟨#[97, 46, 42]⟩ : ByteArray), 3⟩ : S51)] : List (S51)))).bind fun bt115 => (if (bt115.1.length : Int) = 1 then (if 0 < (bt115.1.length : Int) then (if (rd bt115.1 0) = 0 then (some (bt115.2 == 1)) else (some false)) else (none)) else (some false))) = some r := h
 clear h
 obtain ⟨y112, hy112⟩ : ∃ y_ : List (S51), y_ = (([(⟨0, (⟨#[97, 46, 42]⟩ : ByteArray), 3⟩ : S51)] : List (S51))) := ⟨_, rfl⟩
 replace H : ((impl_ListKinds.f y112).bind fun bt115 => (if (bt115.1.length : Int) = 1 then (if 0 < (bt115.1.length : Int) then (if (rd bt115.1 0) = 0 then (some (bt115.2 == 1)) else (some false)) else (none)) else (some false))) = some r := by first | (rw [hy112]; with_reducible exact H) | (have H2_ := (Option.bind_some _ _).symm.trans H; rw [hy112]; with_reducible exact H2_) | (have H2_ := (Option.bind_some _ _).symm.trans H; with_reducible exact H2_) | with_reducible exact H | (rw [hy112]; exact H) | exact H
 have Ny112 := Aside0.mk hy112
 clear hy112
 replace H := Option.bind_eq_some_iff.mp H
 obtain ⟨⟨t115, t116⟩, A10, H⟩ := H
 replace H : (if (t115.length : Int) = 1 then (if 0 < (t115.length : Int) then (if (rd t115 0) = 0 then (some (t116 == 1)) else (some false)) else (none)) else (some false)) = some r := H
 have A1 := Aside0.mk A10
 clear A10
 by_cases c2 : (t115.length : Int) = 1
 ·
  rw [if_pos c2] at H
  have c2b0 : ((t115.length : Int) == 1) = true := beq_iff_eq.mpr c2
  have c2b1 : ((t115.length : Int) != 1) = false := bne_eq_false_iff_eq.mpr c2
  clear c2
  by_cases c3 : 0 < (t115.length : Int)
  ·
   rw [if_pos c3] at H
   have c3b0 : decide (0 < (t115.length : Int)) = true := decide_eq_true c3
   have c3b1 : decide (0 < t115.length) = true := decide_eq_true (by omega)
   clear c3
   by_cases c4 : (rd t115 0) = 0
   ·
    rw [if_pos c4] at H
    have c4b0 : ((rd t115 0) == 0) = true := beq_iff_eq.mpr c4
    have c4b1 : ((rd t115 0) != 0) = false := bne_eq_false_iff_eq.mpr c4
    clear c4
    obtain rfl := Option.some.inj H
    go_enter Tryd.func8, Tryd.ntmps8
    go_wp2_with (first | ((with_reducible refine gate_dst (N := 5) rfl ?_); refine Kd.R_lit k51 _ 51 ?hg (N := 5) ?hd (xs := ([(⟨0, (⟨#[97, 46, 42]⟩ : ByteArray), 3⟩ : S51)] : List (S51))) (inner := [.int .i64 0, .string (⟨#[97, 46, 42]⟩ : ByteArray), .int .i64 3]) (ok := fun _ => True) (okp := fun _ => True) ?hr ?hp (fun _ hk => hk) trivial (Below.refl _ _) (Nat.le_refl _) (by simp) ?_; (case hd => rfl); (case hg => rfl); (case hr => first | (go_simp; done) | (go_simp; rfl)); (case hp => exact (Reps.c3 (show Kd.M k51 _ _ _ (⟨0, (⟨#[97, 46, 42]⟩ : ByteArray), 3⟩ : S51) [.int .i64 0, .string (⟨#[97, 46, 42]⟩ : ByteArray), .int .i64 3] from (k51_mkM _ _ _ (⟨0, (⟨#[97, 46, 42]⟩ : ByteArray), 3⟩ : S51) )) (Reps.none _ _))); intro v113 w5 ho6 hb hg_ hnew_; clear hg_ hnew_; (first | rw [← Ny112.out] at ho6 | (simp only [Int.reduceToNat] at ho6; rw [← Ny112.out] at ho6)); have n0_ := Aside0.mk (Kd.R_lower ho6 (below_size (by repeat (first | (with_reducible first | exact HB.out | apply below_alloc | apply pw_below_drewN | apply below_drew1) | exact HB.out)))); have n1_ := Aside0.mk (below_step (by repeat (first | (with_reducible first | exact HB.out | apply below_alloc | apply pw_below_drewN | apply below_drew1) | exact HB.out)) hb); clear HB; have HO114 := n0_; have HB := n1_; clear n0_ n1_; clear hb ho6; obtain ⟨Ao7, co7, eo7⟩ := Kd.R_slice HO114.out; subst eo7) | ((with_reducible refine gate_callee (f := 24) rfl ?_); refine goesL_ (some 6) rfl rfl Tryd.func24 (by kernel_rfl) rfl #[.slice Ao7 y112.length co7] rfl (by (try simp only [List.map_toArray, List.map_cons, List.map_nil]); first | done | rfl | (simp only [List.length_drop, List.length_take]; rfl)) ?_; (with_reducible refine (impl_ListKinds.calls _ _ y112 t115 t116 _ ?side1 ?side2 A1.out (HE_.out.below (by repeat (first | (with_reducible first | exact HB.out | apply below_alloc | apply pw_below_drewN | apply below_drew1) | exact HB.out)))).mono ?_); (case side1 => repeat (first | exact (Kd.R_reads' HO114.out).2.2 | (with_reducible refine Kd.C_alloc ?_ _) | (with_reducible refine Kd.C_drewN ?_ _) | (with_reducible refine Kd.C_drew ?_))); (case side2 => exact (Kd.R_reads' HO114.out).2.1); rintro e w8 ⟨v117, rfl, ho0, hb⟩; refine ⟨_, rfl, ?_⟩; have n0_ := Aside0.mk (Kd.R_below (by (with_reducible repeat (first | apply Kd.R_alloc | apply Kd.R_drewN | apply Kd.R_drew)); exact HO114.out) hb); have n1_ := Aside0.mk (Kd.R_lower ho0 (below_size (by repeat (first | (with_reducible first | exact HB.out | apply below_alloc | apply pw_below_drewN | apply below_drew1) | exact HB.out)))); have n2_ := Aside0.mk (below_step (by repeat (first | (with_reducible first | exact HB.out | apply below_alloc | apply pw_below_drewN | apply below_drew1) | exact HB.out)) hb); clear HO114; clear HB; have HO114 := n0_; have HO118 := n1_; have HB := n2_; clear n0_ n1_ n2_; (try clear hb); (try clear hb2); (try clear hk); (try clear hi); (try clear ho0); obtain ⟨Ao9, co9, eo9⟩ := Kd.R_slice HO118.out; subst eo9; have p119 : 0 ≤ (0 : Int) := (by omega); have q119 : 0 < (t115.length : Int) := of_decide_eq_true (by first | (with_reducible assumption) | assumption); obtain ⟨ad119, e119, hx119_0⟩ := Kd.at_int (Kd.R_reads' HO118.out).2.2 0 p119 q119; cases e119; have qi119 : (0 < t115.length) = True := eq_true (by omega); (try rw [show ((0 : Int)).toNat = 0 from rfl] at hx119_0); (try rw [Addr.add_zero'] at hx119_0); replace p119 := eq_true p119; replace q119 := eq_true q119))
    go_ret
    exact ⟨by first | rfl | (simp [errW_none, errW_some] <;> rfl) | (simp [*, errW_none, errW_some] <;> rfl) | (simp [errW_none, errW_some]; generalize ByteArray.toList _ = l_; cases l_ <;> rfl), by repeat (first | (with_reducible first | exact HB.out | apply below_alloc | apply pw_below_drewN | apply below_drew1) | exact HB.out)⟩
   ·
    rw [if_neg c4] at H
    have c4b0 : ((rd t115 0) == 0) = false := beq_eq_false_iff_ne.mpr c4
    have c4b1 : ((rd t115 0) != 0) = true := bne_iff_ne.mpr c4
    obtain rfl := Option.some.inj H
    go_enter Tryd.func8, Tryd.ntmps8
    go_wp2_with (first | ((with_reducible refine gate_dst (N := 5) rfl ?_); refine Kd.R_lit k51 _ 51 ?hg (N := 5) ?hd (xs := ([(⟨0, (⟨#[97, 46, 42]⟩ : ByteArray), 3⟩ : S51)] : List (S51))) (inner := [.int .i64 0, .string (⟨#[97, 46, 42]⟩ : ByteArray), .int .i64 3]) (ok := fun _ => True) (okp := fun _ => True) ?hr ?hp (fun _ hk => hk) trivial (Below.refl _ _) (Nat.le_refl _) (by simp) ?_; (case hd => rfl); (case hg => rfl); (case hr => first | (go_simp; done) | (go_simp; rfl)); (case hp => exact (Reps.c3 (show Kd.M k51 _ _ _ (⟨0, (⟨#[97, 46, 42]⟩ : ByteArray), 3⟩ : S51) [.int .i64 0, .string (⟨#[97, 46, 42]⟩ : ByteArray), .int .i64 3] from (k51_mkM _ _ _ (⟨0, (⟨#[97, 46, 42]⟩ : ByteArray), 3⟩ : S51) )) (Reps.none _ _))); intro v113 w10 ho11 hb hg_ hnew_; clear hg_ hnew_; (first | rw [← Ny112.out] at ho11 | (simp only [Int.reduceToNat] at ho11; rw [← Ny112.out] at ho11)); have n0_ := Aside0.mk (Kd.R_lower ho11 (below_size (by repeat (first | (with_reducible first | exact HB.out | apply below_alloc | apply pw_below_drewN | apply below_drew1) | exact HB.out)))); have n1_ := Aside0.mk (below_step (by repeat (first | (with_reducible first | exact HB.out | apply below_alloc | apply pw_below_drewN | apply below_drew1) | exact HB.out)) hb); clear HB; have HO114 := n0_; have HB := n1_; clear n0_ n1_; clear hb ho11; obtain ⟨Ao12, co12, eo12⟩ := Kd.R_slice HO114.out; subst eo12) | ((with_reducible refine gate_callee (f := 24) rfl ?_); refine goesL_ (some 6) rfl rfl Tryd.func24 (by kernel_rfl) rfl #[.slice Ao12 y112.length co12] rfl (by (try simp only [List.map_toArray, List.map_cons, List.map_nil]); first | done | rfl | (simp only [List.length_drop, List.length_take]; rfl)) ?_; (with_reducible refine (impl_ListKinds.calls _ _ y112 t115 t116 _ ?side1 ?side2 A1.out (HE_.out.below (by repeat (first | (with_reducible first | exact HB.out | apply below_alloc | apply pw_below_drewN | apply below_drew1) | exact HB.out)))).mono ?_); (case side1 => repeat (first | exact (Kd.R_reads' HO114.out).2.2 | (with_reducible refine Kd.C_alloc ?_ _) | (with_reducible refine Kd.C_drewN ?_ _) | (with_reducible refine Kd.C_drew ?_))); (case side2 => exact (Kd.R_reads' HO114.out).2.1); rintro e w13 ⟨v117, rfl, ho0, hb⟩; refine ⟨_, rfl, ?_⟩; have n0_ := Aside0.mk (Kd.R_below (by (with_reducible repeat (first | apply Kd.R_alloc | apply Kd.R_drewN | apply Kd.R_drew)); exact HO114.out) hb); have n1_ := Aside0.mk (Kd.R_lower ho0 (below_size (by repeat (first | (with_reducible first | exact HB.out | apply below_alloc | apply pw_below_drewN | apply below_drew1) | exact HB.out)))); have n2_ := Aside0.mk (below_step (by repeat (first | (with_reducible first | exact HB.out | apply below_alloc | apply pw_below_drewN | apply below_drew1) | exact HB.out)) hb); clear HO114; clear HB; have HO114 := n0_; have HO118 := n1_; have HB := n2_; clear n0_ n1_ n2_; (try clear hb); (try clear hb2); (try clear hk); (try clear hi); (try clear ho0); obtain ⟨Ao14, co14, eo14⟩ := Kd.R_slice HO118.out; subst eo14; have p119 : 0 ≤ (0 : Int) := (by omega); have q119 : 0 < (t115.length : Int) := of_decide_eq_true (by first | (with_reducible assumption) | assumption); obtain ⟨ad119, e119, hx119_0⟩ := Kd.at_int (Kd.R_reads' HO118.out).2.2 0 p119 q119; cases e119; have qi119 : (0 < t115.length) = True := eq_true (by omega); (try rw [show ((0 : Int)).toNat = 0 from rfl] at hx119_0); (try rw [Addr.add_zero'] at hx119_0); replace p119 := eq_true p119; replace q119 := eq_true q119))
    go_ret
    exact ⟨by first | rfl | (simp [errW_none, errW_some] <;> rfl) | (simp [*, errW_none, errW_some] <;> rfl) | (simp [errW_none, errW_some]; generalize ByteArray.toList _ = l_; cases l_ <;> rfl), by repeat (first | (with_reducible first | exact HB.out | apply below_alloc | apply pw_below_drewN | apply below_drew1) | exact HB.out)⟩
  ·
   rw [if_neg c3] at H
   exact absurd H (by simp)
 ·
  rw [if_neg c2] at H
  have c2b0 : ((t115.length : Int) == 1) = false := beq_eq_false_iff_ne.mpr c2
  have c2b1 : ((t115.length : Int) != 1) = true := bne_iff_ne.mpr c2
  obtain rfl := Option.some.inj H
  go_enter Tryd.func8, Tryd.ntmps8
  go_wp2_with (first | ((with_reducible refine gate_dst (N := 5) rfl ?_); refine Kd.R_lit k51 _ 51 ?hg (N := 5) ?hd (xs := ([(⟨0, (⟨#[97, 46, 42]⟩ : ByteArray), 3⟩ : S51)] : List (S51))) (inner := [.int .i64 0, .string (⟨#[97, 46, 42]⟩ : ByteArray), .int .i64 3]) (ok := fun _ => True) (okp := fun _ => True) ?hr ?hp (fun _ hk => hk) trivial (Below.refl _ _) (Nat.le_refl _) (by simp) ?_; (case hd => rfl); (case hg => rfl); (case hr => first | (go_simp; done) | (go_simp; rfl)); (case hp => exact (Reps.c3 (show Kd.M k51 _ _ _ (⟨0, (⟨#[97, 46, 42]⟩ : ByteArray), 3⟩ : S51) [.int .i64 0, .string (⟨#[97, 46, 42]⟩ : ByteArray), .int .i64 3] from (k51_mkM _ _ _ (⟨0, (⟨#[97, 46, 42]⟩ : ByteArray), 3⟩ : S51) )) (Reps.none _ _))); intro v113 w15 ho16 hb hg_ hnew_; clear hg_ hnew_; (first | rw [← Ny112.out] at ho16 | (simp only [Int.reduceToNat] at ho16; rw [← Ny112.out] at ho16)); have n0_ := Aside0.mk (Kd.R_lower ho16 (below_size (by repeat (first | (with_reducible first | exact HB.out | apply below_alloc | apply pw_below_drewN | apply below_drew1) | exact HB.out)))); have n1_ := Aside0.mk (below_step (by repeat (first | (with_reducible first | exact HB.out | apply below_alloc | apply pw_below_drewN | apply below_drew1) | exact HB.out)) hb); clear HB; have HO114 := n0_; have HB := n1_; clear n0_ n1_; clear hb ho16; obtain ⟨Ao17, co17, eo17⟩ := Kd.R_slice HO114.out; subst eo17) | ((with_reducible refine gate_callee (f := 24) rfl ?_); refine goesL_ (some 6) rfl rfl Tryd.func24 (by kernel_rfl) rfl #[.slice Ao17 y112.length co17] rfl (by (try simp only [List.map_toArray, List.map_cons, List.map_nil]); first | done | rfl | (simp only [List.length_drop, List.length_take]; rfl)) ?_; (with_reducible refine (impl_ListKinds.calls _ _ y112 t115 t116 _ ?side1 ?side2 A1.out (HE_.out.below (by repeat (first | (with_reducible first | exact HB.out | apply below_alloc | apply pw_below_drewN | apply below_drew1) | exact HB.out)))).mono ?_); (case side1 => repeat (first | exact (Kd.R_reads' HO114.out).2.2 | (with_reducible refine Kd.C_alloc ?_ _) | (with_reducible refine Kd.C_drewN ?_ _) | (with_reducible refine Kd.C_drew ?_))); (case side2 => exact (Kd.R_reads' HO114.out).2.1); rintro e w18 ⟨v117, rfl, ho0, hb⟩; refine ⟨_, rfl, ?_⟩; have n0_ := Aside0.mk (Kd.R_below (by (with_reducible repeat (first | apply Kd.R_alloc | apply Kd.R_drewN | apply Kd.R_drew)); exact HO114.out) hb); have n1_ := Aside0.mk (Kd.R_lower ho0 (below_size (by repeat (first | (with_reducible first | exact HB.out | apply below_alloc | apply pw_below_drewN | apply below_drew1) | exact HB.out)))); have n2_ := Aside0.mk (below_step (by repeat (first | (with_reducible first | exact HB.out | apply below_alloc | apply pw_below_drewN | apply below_drew1) | exact HB.out)) hb); clear HO114; clear HB; have HO114 := n0_; have HO118 := n1_; have HB := n2_; clear n0_ n1_ n2_; (try clear hb); (try clear hb2); (try clear hk); (try clear hi); (try clear ho0); obtain ⟨Ao19, co19, eo19⟩ := Kd.R_slice HO118.out; subst eo19))
  go_ret
  exact ⟨by first | rfl | (simp [errW_none, errW_some] <;> rfl) | (simp [*, errW_none, errW_some] <;> rfl) | (simp [errW_none, errW_some]; generalize ByteArray.toList _ = l_; cases l_ <;> rfl), by repeat (first | (with_reducible first | exact HB.out | apply below_alloc | apply pw_below_drewN | apply below_drew1) | exact HB.out)⟩

/-! ### spec_Tokens: function 32 -/
def spec_Tokens.l0 : Nat → ByteArray → List ByteArray → Int → Int → Option (List ByteArray)
 | 0, _, _, _, _ => none
 | k + 1, x0, x3, x4, x5 => if x5 < (x0.size : Int) then (if 0 ≤ x5 then (if (bt x0 x5) = 46 then (if 0 ≤ x4 then (if x4 ≤ x5 then (if x5 ≤ (x0.size : Int) then (if x3.length < 8796093022208 then (spec_Tokens.l0 k x0 (x3 ++ [x0.extract (x4 : Int).toNat (x5 : Int).toNat]) (wrap64 (x5 + 1)) (wrap64 (x5 + 1))) else (none)) else (none)) else (none)) else (none)) else (spec_Tokens.l0 k x0 x3 x4 (wrap64 (x5 + 1)))) else (none)) else (if 0 ≤ x4 then (if x4 ≤ (x0.size : Int) then (if x3.length < 8796093022208 then (some (x3 ++ [x0.extract (x4 : Int).toNat x0.size])) else (none)) else (none)) else (none))
def spec_Tokens.f (k : Nat) (a0 : ByteArray) : Option (List ByteArray) := spec_Tokens.l0 k a0 ([] : List ByteArray) 0 0
theorem spec_Tokens.mono_l : ∀ k, (∀ y0 y1 y2 y3, LeO (spec_Tokens.l0 k y0 y1 y2 y3) (spec_Tokens.l0 (k + 1) y0 y1 y2 y3))
 | 0 => fun _ _ _ _ r h => by simp [spec_Tokens.l0] at h
 | k + 1 => by
  have ih0 := spec_Tokens.mono_l k
  ·
   intro y0 y1 y2 y3
   unfold spec_Tokens.l0
   repeat' first
   | (with_reducible exact ih0 _ _ _ _)
   | (with_reducible exact LeO.refl _)
   | (with_reducible exact LeO.none _)
   | (with_reducible refine LeO.ite ?_ ?_)
   | (with_reducible refine LeO.bind ?_ (fun _ => ?_))
   | exact ih0 _ _ _ _
   | exact LeO.none _
   | refine LeO.ite ?_ ?_
   | refine LeO.bind ?_ (fun _ => ?_)
theorem spec_Tokens.mono : ∀ a0 k, LeO (spec_Tokens.f k a0) (spec_Tokens.f (k + 1) a0) := by
 intro a0 k
 have ih0 := spec_Tokens.mono_l k
 unfold spec_Tokens.f
 repeat' first
   | (with_reducible exact ih0 _ _ _ _)
   | (with_reducible exact LeO.refl _)
   | (with_reducible exact LeO.none _)
   | (with_reducible refine LeO.ite ?_ ?_)
   | (with_reducible refine LeO.bind ?_ (fun _ => ?_))
   | exact ih0 _ _ _ _
   | exact LeO.none _
   | refine LeO.ite ?_ ?_
   | refine LeO.bind ?_ (fun _ => ?_)
set_option maxHeartbeats 8000000 in
set_option maxRecDepth 100000 in
theorem spec_Tokens.calls (k : Nat) (a0 : ByteArray) (r : List ByteArray) (w : World) (h : spec_Tokens.f k a0 = some r) :
  Calls Tryd.prog 32 #[.string a0] w fun e w' => ∃ v0_ : Value, e = .returned (v0_) ∧ Kd.R Kd.string 9 w' w.heap.size (fun _ => True) v0_ r ∧ Below w.heap.size w w' := by
 have HB := Aside0.mk (Below.refl w.heap.size w)
 have H : (spec_Tokens.l0 k a0 ([] : List ByteArray) 0 0) = some r := h
 clear h
 have H' := Aside0.mk H
 clear H
 go_enter Tryd.func32, Tryd.ntmps32
 go_wp2
 go_loopg [3, 4, 5] k (fun kq v3 v4 v5 w' => ∃ (x3_1 : List ByteArray) (x4_1 : Int) (x5_1 : Int), v4 = .int .i64 x4_1 ∧ v5 = .int .i64 x5_1 ∧ Aside0 (spec_Tokens.l0 kq a0 x3_1 x4_1 x5_1 = some r) ∧ Aside0 (kq ≤ k) ∧ Aside0 (Kd.R Kd.string 9 w' w.heap.size (fun _ => True) v3 x3_1) ∧ Aside0 (Below w.heap.size w w'))
 case atStart => exact ⟨(([] : List ByteArray)), (0), (0), (by first | rfl | (simp; done) | (simp [*]; done)), (by first | rfl | (simp; done) | (simp [*]; done)), H', ⟨Nat.le_refl _⟩, ⟨by first | exact Kd.R_nil _ _ _ _ _ | exact Kd.N_nil _ _ _ _ _ | exact Kd.V_nil _ _ _ _ _ | exact Kd.Q_nil _ _ _ _ _ | exact Kd.S_nil _ _ _ _ _⟩, ⟨by repeat (first | (with_reducible first | exact HB.out | apply below_alloc | apply pw_below_drewN | apply below_drew1) | exact HB.out)⟩⟩
 case round =>
  clear H'
  obtain ⟨x3_1, x4_1, x5_1, rfl, rfl, HA, HK1, HO_3, HB⟩ := hrel
  cases gk with
  | zero => exact absurd HA.out (by simp [spec_Tokens.l0])
  | succ k1 =>
   have H := HA.out
   clear HA
   simp only [spec_Tokens.l0] at H
   by_cases c2 : x5_1 < (a0.size : Int)
   ·
    rw [if_pos c2] at H
    have c2b0 : decide (x5_1 < (a0.size : Int)) = true := decide_eq_true c2
    clear c2
    by_cases c3 : 0 ≤ x5_1
    ·
     rw [if_pos c3] at H
     have c3b0 : decide (0 ≤ x5_1) = true := decide_eq_true c3
     clear c3
     by_cases c5 : (bt a0 x5_1) = 46
     ·
      rw [if_pos c5] at H
      have c5b0 : ((bt a0 x5_1) == 46) = true := beq_iff_eq.mpr c5
      have c5b1 : ((bt a0 x5_1) != 46) = false := bne_eq_false_iff_eq.mpr c5
      clear c5
      by_cases c6 : 0 ≤ x4_1
      ·
       rw [if_pos c6] at H
       have c6b0 := eq_true c6
       have c6b1 : decide (0 ≤ x4_1) = true := decide_eq_true c6
       clear c6
       by_cases c7 : x4_1 ≤ x5_1
       ·
        rw [if_pos c7] at H
        have c7b0 := eq_true c7
        have c7b1 : decide (x4_1 ≤ x5_1) = true := decide_eq_true c7
        clear c7
        by_cases c8 : x5_1 ≤ (a0.size : Int)
        ·
         rw [if_pos c8] at H
         have c8b0 := eq_true c8
         have c8b1 : decide (x5_1 ≤ (a0.size : Int)) = true := decide_eq_true c8
         clear c8
         by_cases c9 : x3_1.length < 8796093022208
         ·
          rw [if_pos c9] at H
          have LMc9 := Aside0.mk c9
          clear c9
          obtain ⟨y120, hy120⟩ : ∃ y_ : List ByteArray, y_ = (x3_1 ++ [a0.extract (x4_1 : Int).toNat (x5_1 : Int).toNat]) := ⟨_, rfl⟩
          replace H : (spec_Tokens.l0 k1 a0 y120 (wrap64 (x5_1 + 1)) (wrap64 (x5_1 + 1))) = some r := by first | (rw [hy120]; with_reducible exact H) | (have H2_ := (Option.bind_some _ _).symm.trans H; rw [hy120]; with_reducible exact H2_) | (have H2_ := (Option.bind_some _ _).symm.trans H; with_reducible exact H2_) | with_reducible exact H | (rw [hy120]; exact H) | exact H
          have Ny120 := Aside0.mk hy120
          clear hy120
          have H' := Aside0.mk H
          clear H
          have p4 : 0 ≤ (x5_1 : Int) := of_decide_eq_true (by first | (with_reducible assumption) | assumption)
          have q4 : x5_1 < (a0.size : Int) := of_decide_eq_true (by first | (with_reducible assumption) | assumption)
          have hx4 := bt_at a0 x5_1
          replace p4 := eq_true p4
          replace q4 := eq_true q4
          go_wp2_with (first | ((with_reducible refine gate_builtin (b := .append) (xs := #[.tmp 16, .tmp 21]) rfl ?_); at_builtin; refine Kd.R_append Kd.string (w0 := w) w.heap.size rfl (.tmp 16) (.tmp 21) 35 9 (.string ⟨#[]⟩) 16 rfl Tryd.underlying35 info9 rfl (by decide) (by omega) u3 x3_1 (a0.extract (x4_1 : Int).toNat (x5_1 : Int).toNat) [.string (a0.extract (x4_1 : Int).toNat (x5_1 : Int).toNat)] (fun _ => True) (fun _ => False) rfl rfl ?aP (fun _ hk => hk.elim) ?aF ?aO ?aB ?aS ?aL ?_; (case aP => exact rfl); (case aB => exact (by repeat (first | (with_reducible first | exact HB.out | apply below_alloc | apply pw_below_drewN | apply below_drew1) | exact HB.out))); (case aF => exact (fun _ _ => trivial)); (case aO => exact (by (with_reducible repeat (first | apply Kd.R_alloc | apply Kd.R_drewN | apply Kd.R_drew)); exact HO_3.out)); (case aS => exact (below_size (by repeat (first | (with_reducible first | exact HB.out | apply below_alloc | apply pw_below_drewN | apply below_drew1) | exact HB.out)))); (case aL => have := LMc9.out; omega); intro v121 w10 ho hb hg hat; rw [← Ny120.out] at ho; have n0_ := Aside0.mk (hb); have n1_ := Aside0.mk (ho); clear HB; clear HO_3; have HB := n0_; have HO122 := n1_; clear n0_ n1_; clear ho hb hg hat))
          go_roundg k1
          case measure => have := HK1.out; omega
          case rel => exact ⟨(y120), (wrap64 (x5_1 + 1)), (wrap64 (x5_1 + 1)), (by first | rfl | (simp; done) | (simp [*]; done)), (by first | rfl | (simp; done) | (simp [*]; done)), H', ⟨by have := HK1.out; omega⟩, ⟨by (with_reducible repeat (first | apply Kd.R_alloc | apply Kd.R_drewN | apply Kd.R_drew)); exact HO122.out⟩, ⟨by repeat (first | (with_reducible first | exact HB.out | apply below_alloc | apply pw_below_drewN | apply below_drew1) | exact HB.out)⟩⟩
         ·
          rw [if_neg c9] at H
          exact absurd H (by simp)
        ·
         rw [if_neg c8] at H
         exact absurd H (by simp)
       ·
        rw [if_neg c7] at H
        exact absurd H (by simp)
      ·
       rw [if_neg c6] at H
       exact absurd H (by simp)
     ·
      rw [if_neg c5] at H
      have c5b0 : ((bt a0 x5_1) == 46) = false := beq_eq_false_iff_ne.mpr c5
      have c5b1 : ((bt a0 x5_1) != 46) = true := bne_iff_ne.mpr c5
      have H' := Aside0.mk H
      clear H
      have p4 : 0 ≤ (x5_1 : Int) := of_decide_eq_true (by first | (with_reducible assumption) | assumption)
      have q4 : x5_1 < (a0.size : Int) := of_decide_eq_true (by first | (with_reducible assumption) | assumption)
      have hx4 := bt_at a0 x5_1
      replace p4 := eq_true p4
      replace q4 := eq_true q4
      go_wp2
      go_roundg k1
      case measure => have := HK1.out; omega
      case rel => exact ⟨(x3_1), (x4_1), (wrap64 (x5_1 + 1)), (by first | rfl | (simp; done) | (simp [*]; done)), (by first | rfl | (simp; done) | (simp [*]; done)), H', ⟨by have := HK1.out; omega⟩, ⟨by (with_reducible repeat (first | apply Kd.R_alloc | apply Kd.R_drewN | apply Kd.R_drew)); exact HO_3.out⟩, ⟨by repeat (first | (with_reducible first | exact HB.out | apply below_alloc | apply pw_below_drewN | apply below_drew1) | exact HB.out)⟩⟩
    ·
     rw [if_neg c3] at H
     exact absurd H (by simp)
   ·
    rw [if_neg c2] at H
    have c2b0 : decide (x5_1 < (a0.size : Int)) = false := decide_eq_false c2
    clear c2
    by_cases c11 : 0 ≤ x4_1
    ·
     rw [if_pos c11] at H
     have c11b0 := eq_true c11
     have c11b1 : decide (0 ≤ x4_1) = true := decide_eq_true c11
     clear c11
     by_cases c12 : x4_1 ≤ (a0.size : Int)
     ·
      rw [if_pos c12] at H
      have c12b0 := eq_true c12
      have c12b1 : decide (x4_1 ≤ (a0.size : Int)) = true := decide_eq_true c12
      clear c12
      by_cases c13 : x3_1.length < 8796093022208
      ·
       rw [if_pos c13] at H
       have LMc13 := Aside0.mk c13
       clear c13
       obtain ⟨y123, hy123⟩ : ∃ y_ : List ByteArray, y_ = (x3_1 ++ [a0.extract (x4_1 : Int).toNat a0.size]) := ⟨_, rfl⟩
       replace H : (some y123) = some r := by first | (rw [hy123]; with_reducible exact H) | (have H2_ := (Option.bind_some _ _).symm.trans H; rw [hy123]; with_reducible exact H2_) | (have H2_ := (Option.bind_some _ _).symm.trans H; with_reducible exact H2_) | with_reducible exact H | (rw [hy123]; exact H) | exact H
       have Ny123 := Aside0.mk hy123
       clear hy123
       obtain rfl := Option.some.inj H
       go_wp2_with (first | ((with_reducible refine gate_builtin (b := .append) (xs := #[.tmp 25, .tmp 29]) rfl ?_); at_builtin; refine Kd.R_append Kd.string (w0 := w) w.heap.size rfl (.tmp 25) (.tmp 29) 35 9 (.string ⟨#[]⟩) 16 rfl Tryd.underlying35 info9 rfl (by decide) (by omega) u3 x3_1 (a0.extract (x4_1 : Int).toNat a0.size) [.string (a0.extract (x4_1 : Int).toNat a0.size)] (fun _ => True) (fun _ => False) rfl rfl ?aP (fun _ hk => hk.elim) ?aF ?aO ?aB ?aS ?aL ?_; (case aP => exact rfl); (case aB => exact (by repeat (first | (with_reducible first | exact HB.out | apply below_alloc | apply pw_below_drewN | apply below_drew1) | exact HB.out))); (case aF => exact (fun _ _ => trivial)); (case aO => exact (by (with_reducible repeat (first | apply Kd.R_alloc | apply Kd.R_drewN | apply Kd.R_drew)); exact HO_3.out)); (case aS => exact (below_size (by repeat (first | (with_reducible first | exact HB.out | apply below_alloc | apply pw_below_drewN | apply below_drew1) | exact HB.out)))); (case aL => have := LMc13.out; omega); intro v124 w14 ho hb hg hat; rw [← Ny123.out] at ho; have n0_ := Aside0.mk (hb); have n1_ := Aside0.mk (ho); clear HB; clear HO_3; have HB := n0_; have HO125 := n1_; clear n0_ n1_; clear ho hb hg hat))
       go_ret
       exact ⟨_, by first | rfl | (simp [errW_none, errW_some] <;> rfl) | (simp [*, errW_none, errW_some] <;> rfl), by (with_reducible repeat (first | apply Kd.R_alloc | apply Kd.R_drewN | apply Kd.R_drew)); exact HO125.out, by repeat (first | (with_reducible first | exact HB.out | apply below_alloc | apply pw_below_drewN | apply below_drew1) | exact HB.out)⟩
      ·
       rw [if_neg c13] at H
       exact absurd H (by simp)
     ·
      rw [if_neg c12] at H
      exact absurd H (by simp)
    ·
     rw [if_neg c11] at H
     exact absurd H (by simp)

/-! ### spec_Formed: function 45 -/
def spec_Formed.l0 : Nat → List ByteArray → Int → Option (Bool)
 | 0, _, _ => none
 | k + 1, x0, x3 => if x3 < (x0.length : Int) then (if 0 ≤ x3 then (if (rdOf ByteArray.empty x0 x3).toList = ([] : List UInt8) then (some false) else (if (rdOf ByteArray.empty x0 x3).toList = ([62] : List UInt8) then (if (wrap64 (x3 + 1)) < (x0.length : Int) then (some false) else (spec_Formed.l0 k x0 (wrap64 (x3 + 1)))) else (spec_Formed.l0 k x0 (wrap64 (x3 + 1))))) else (none)) else (some true)
def spec_Formed.f (k : Nat) (l0 : List ByteArray) : Option (Bool) := spec_Formed.l0 k l0 0
theorem spec_Formed.mono_l : ∀ k, (∀ y0 y1, LeO (spec_Formed.l0 k y0 y1) (spec_Formed.l0 (k + 1) y0 y1))
 | 0 => fun _ _ r h => by simp [spec_Formed.l0] at h
 | k + 1 => by
  have ih0 := spec_Formed.mono_l k
  ·
   intro y0 y1
   unfold spec_Formed.l0
   repeat' first
   | (with_reducible exact ih0 _ _)
   | (with_reducible exact LeO.refl _)
   | (with_reducible exact LeO.none _)
   | (with_reducible refine LeO.ite ?_ ?_)
   | (with_reducible refine LeO.bind ?_ (fun _ => ?_))
   | exact ih0 _ _
   | exact LeO.none _
   | refine LeO.ite ?_ ?_
   | refine LeO.bind ?_ (fun _ => ?_)
theorem spec_Formed.mono : ∀ a0 k, LeO (spec_Formed.f k a0) (spec_Formed.f (k + 1) a0) := by
 intro a0 k
 have ih0 := spec_Formed.mono_l k
 unfold spec_Formed.f
 repeat' first
   | (with_reducible exact ih0 _ _)
   | (with_reducible exact LeO.refl _)
   | (with_reducible exact LeO.none _)
   | (with_reducible refine LeO.ite ?_ ?_)
   | (with_reducible refine LeO.bind ?_ (fun _ => ?_))
   | exact ih0 _ _
   | exact LeO.none _
   | refine LeO.ite ?_ ?_
   | refine LeO.bind ?_ (fun _ => ?_)
set_option maxHeartbeats 8000000 in
set_option maxRecDepth 100000 in
theorem spec_Formed.calls (k : Nat) (A0 : Option Addr) (c0 : Nat) (l0 : List ByteArray) (r : Bool) (w : World) (hr0 : Kd.C Kd.string w A0 l0.length l0) (hc0 : l0.length ≤ c0) (h : spec_Formed.f k l0 = some r) :
  Calls Tryd.prog 45 #[.slice A0 l0.length c0] w fun e w' => e = .returned (.bool r) ∧ Drawn0 w w' := by
 have HR0 := Aside0.mk hr0
 have HC0 := Aside0.mk hc0
 clear hr0 hc0
 have H : (spec_Formed.l0 k l0 0) = some r := h
 clear h
 have H' := Aside0.mk H
 clear H
 go_enter Tryd.func45, Tryd.ntmps45
 go_wp2
 go_loopg [3] k (fun kq v3 w' => ∃ (x3_1 : Int), v3 = .int .i64 x3_1 ∧ Aside0 (spec_Formed.l0 kq l0 x3_1 = some r) ∧ Aside0 (kq ≤ k) ∧ Drawn0 w w')
 case atStart => exact ⟨(0), (by first | rfl | (simp; done) | (simp [*]; done)), H', ⟨Nat.le_refl _⟩, by repeat (first | exact Drawn0.refl _ | apply Drawn0.step)⟩
 case round =>
  clear H'
  obtain ⟨x3_1, rfl, HA, HK1, ⟨m1, rfl⟩⟩ := hrel
  cases gk with
  | zero => exact absurd HA.out (by simp [spec_Formed.l0])
  | succ k1 =>
   have H := HA.out
   clear HA
   simp only [spec_Formed.l0] at H
   by_cases c2 : x3_1 < (l0.length : Int)
   ·
    rw [if_pos c2] at H
    have c2b0 : decide (x3_1 < (l0.length : Int)) = true := decide_eq_true c2
    clear c2
    by_cases c3 : 0 ≤ x3_1
    ·
     rw [if_pos c3] at H
     have c3b0 : decide (0 ≤ x3_1) = true := decide_eq_true c3
     clear c3
     by_cases c4 : (rdOf ByteArray.empty l0 x3_1).toList = ([] : List UInt8)
     ·
      rw [if_pos c4] at H
      have c4b0 : ((rdOf ByteArray.empty l0 x3_1).toList == ([] : List UInt8)) = true := beq_iff_eq.mpr c4
      have c4b1 : ((rdOf ByteArray.empty l0 x3_1).toList != ([] : List UInt8)) = false := bne_eq_false_iff_eq.mpr c4
      clear c4
      obtain rfl := Option.some.inj H
      have p126 : 0 ≤ (x3_1 : Int) := of_decide_eq_true (by first | (with_reducible assumption) | assumption)
      have q126 : x3_1 < (l0.length : Int) := of_decide_eq_true (by first | (with_reducible assumption) | assumption)
      obtain ⟨ad126, e126, hx126_0⟩ := Kd.at_string HR0.out x3_1 p126 q126
      cases e126
      replace p126 := eq_true p126
      replace q126 := eq_true q126
      go_wp2
      go_ret
      exact ⟨by first | rfl | (simp; done) | (simp [*]; done) | (simp; generalize ByteArray.toList _ = l_; cases l_ <;> rfl), by repeat (first | exact Drawn0.refl _ | apply Drawn0.step)⟩
     ·
      rw [if_neg c4] at H
      have c4b0 : ((rdOf ByteArray.empty l0 x3_1).toList == ([] : List UInt8)) = false := beq_eq_false_iff_ne.mpr c4
      have c4b1 : ((rdOf ByteArray.empty l0 x3_1).toList != ([] : List UInt8)) = true := bne_iff_ne.mpr c4
      by_cases c5 : (rdOf ByteArray.empty l0 x3_1).toList = ([62] : List UInt8)
      ·
       rw [if_pos c5] at H
       have c5b0 : ((rdOf ByteArray.empty l0 x3_1).toList == ([62] : List UInt8)) = true := beq_iff_eq.mpr c5
       have c5b1 : ((rdOf ByteArray.empty l0 x3_1).toList != ([62] : List UInt8)) = false := bne_eq_false_iff_eq.mpr c5
       clear c5
       by_cases c6 : (wrap64 (x3_1 + 1)) < (l0.length : Int)
       ·
        rw [if_pos c6] at H
        have c6b0 : decide ((wrap64 (x3_1 + 1)) < (l0.length : Int)) = true := decide_eq_true c6
        clear c6
        obtain rfl := Option.some.inj H
        have p126 : 0 ≤ (x3_1 : Int) := of_decide_eq_true (by first | (with_reducible assumption) | assumption)
        have q126 : x3_1 < (l0.length : Int) := of_decide_eq_true (by first | (with_reducible assumption) | assumption)
        obtain ⟨ad126, e126, hx126_0⟩ := Kd.at_string HR0.out x3_1 p126 q126
        cases e126
        replace p126 := eq_true p126
        replace q126 := eq_true q126
        have p127 : 0 ≤ (x3_1 : Int) := of_decide_eq_true (by first | (with_reducible assumption) | assumption)
        have q127 : x3_1 < (l0.length : Int) := of_decide_eq_true (by first | (with_reducible assumption) | assumption)
        obtain ⟨ad127, e127, hx127_0⟩ := Kd.at_string HR0.out x3_1 p127 q127
        obtain rfl : ad126 = ad127 := (by injection e127)
        replace p127 := eq_true p127
        replace q127 := eq_true q127
        go_wp2
        go_ret
        exact ⟨by first | rfl | (simp; done) | (simp [*]; done) | (simp; generalize ByteArray.toList _ = l_; cases l_ <;> rfl), by repeat (first | exact Drawn0.refl _ | apply Drawn0.step)⟩
       ·
        rw [if_neg c6] at H
        have c6b0 : decide ((wrap64 (x3_1 + 1)) < (l0.length : Int)) = false := decide_eq_false c6
        clear c6
        have H' := Aside0.mk H
        clear H
        have p126 : 0 ≤ (x3_1 : Int) := of_decide_eq_true (by first | (with_reducible assumption) | assumption)
        have q126 : x3_1 < (l0.length : Int) := of_decide_eq_true (by first | (with_reducible assumption) | assumption)
        obtain ⟨ad126, e126, hx126_0⟩ := Kd.at_string HR0.out x3_1 p126 q126
        cases e126
        replace p126 := eq_true p126
        replace q126 := eq_true q126
        have p127 : 0 ≤ (x3_1 : Int) := of_decide_eq_true (by first | (with_reducible assumption) | assumption)
        have q127 : x3_1 < (l0.length : Int) := of_decide_eq_true (by first | (with_reducible assumption) | assumption)
        obtain ⟨ad127, e127, hx127_0⟩ := Kd.at_string HR0.out x3_1 p127 q127
        obtain rfl : ad126 = ad127 := (by injection e127)
        replace p127 := eq_true p127
        replace q127 := eq_true q127
        go_wp2
        go_roundg k1
        case measure => have := HK1.out; omega
        case rel => exact ⟨(wrap64 (x3_1 + 1)), (by first | rfl | (simp; done) | (simp [*]; done)), H', ⟨by have := HK1.out; omega⟩, by repeat (first | exact Drawn0.refl _ | apply Drawn0.step)⟩
      ·
       rw [if_neg c5] at H
       have c5b0 : ((rdOf ByteArray.empty l0 x3_1).toList == ([62] : List UInt8)) = false := beq_eq_false_iff_ne.mpr c5
       have c5b1 : ((rdOf ByteArray.empty l0 x3_1).toList != ([62] : List UInt8)) = true := bne_iff_ne.mpr c5
       have H' := Aside0.mk H
       clear H
       have p126 : 0 ≤ (x3_1 : Int) := of_decide_eq_true (by first | (with_reducible assumption) | assumption)
       have q126 : x3_1 < (l0.length : Int) := of_decide_eq_true (by first | (with_reducible assumption) | assumption)
       obtain ⟨ad126, e126, hx126_0⟩ := Kd.at_string HR0.out x3_1 p126 q126
       cases e126
       replace p126 := eq_true p126
       replace q126 := eq_true q126
       have p127 : 0 ≤ (x3_1 : Int) := of_decide_eq_true (by first | (with_reducible assumption) | assumption)
       have q127 : x3_1 < (l0.length : Int) := of_decide_eq_true (by first | (with_reducible assumption) | assumption)
       obtain ⟨ad127, e127, hx127_0⟩ := Kd.at_string HR0.out x3_1 p127 q127
       obtain rfl : ad126 = ad127 := (by injection e127)
       replace p127 := eq_true p127
       replace q127 := eq_true q127
       go_wp2
       go_roundg k1
       case measure => have := HK1.out; omega
       case rel => exact ⟨(wrap64 (x3_1 + 1)), (by first | rfl | (simp; done) | (simp [*]; done)), H', ⟨by have := HK1.out; omega⟩, by repeat (first | exact Drawn0.refl _ | apply Drawn0.step)⟩
    ·
     rw [if_neg c3] at H
     exact absurd H (by simp)
   ·
    rw [if_neg c2] at H
    have c2b0 : decide (x3_1 < (l0.length : Int)) = false := decide_eq_false c2
    clear c2
    obtain rfl := Option.some.inj H
    go_wp2
    go_ret
    exact ⟨by first | rfl | (simp; done) | (simp [*]; done) | (simp; generalize ByteArray.toList _ = l_; cases l_ <;> rfl), by repeat (first | exact Drawn0.refl _ | apply Drawn0.step)⟩

end Go.Proofs.YtcnbnljlopopkaaDoor.PFnListTurned

-- thin
