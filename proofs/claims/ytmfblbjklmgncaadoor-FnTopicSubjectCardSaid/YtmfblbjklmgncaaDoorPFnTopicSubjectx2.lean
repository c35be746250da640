-- Written by hprint.py (this session's program, over the kit's printing program, with this session's own contracts in it). Not trusted: Lean checks it.
import Derived.Test.YtmfblbjklmgncaaDoorPFnTopicSubjectx0
import Derived.Test.YtmfblbjklmgncaaDoorPFnTopicSubjectx1
namespace Go.Proofs.YtmfblbjklmgncaaDoor.PFnTopicSubject
open Go.RowKit Go.Proofs.YtmfblbjklmgncaaDoorW.PrintWords Go.Proofs.YtmfblbjklmgncaaDoorW.PrintLast Go.Proofs.YtmfblbjklmgncaaDoorW.PrintMore
attribute [local go_sem] max2_int min2_int max_two min_two max_three min_three max_four min_four   -- for this text's walks alone
set_option linter.unusedVariables false
set_option linter.unusedSimpArgs false

/-! ### spec_Join: function 47 -/
def spec_Join.l0 : Nat → List ByteArray → ByteArray → Int → Option (ByteArray)
  | 0, _, _, _ => none
  | k + 1, x0, x3, x4 => if x4 < (x0.length : Int) then (if x4 > 0 then (if x3.size + 1 ≤ 9223372036854775807 then (if 0 ≤ x4 then (if (x3 ++ (⟨#[46]⟩ : ByteArray)).size + (rdOf ByteArray.empty x0 x4).size ≤ 9223372036854775807 then (spec_Join.l0 k x0 ((x3 ++ (⟨#[46]⟩ : ByteArray)) ++ (rdOf ByteArray.empty x0 x4)) (wrap64 (x4 + 1))) else (none)) else (none)) else (none)) else (if 0 ≤ x4 then (if x3.size + (rdOf ByteArray.empty x0 x4).size ≤ 9223372036854775807 then (spec_Join.l0 k x0 (x3 ++ (rdOf ByteArray.empty x0 x4)) (wrap64 (x4 + 1))) else (none)) else (none))) else (some x3)
def spec_Join.f (k : Nat) (l0 : List ByteArray) : Option (ByteArray) := spec_Join.l0 k l0 (⟨#[]⟩ : ByteArray) 0
theorem spec_Join.mono_l : ∀ k, (∀ y0 y1 y2, LeO (spec_Join.l0 k y0 y1 y2) (spec_Join.l0 (k + 1) y0 y1 y2))
  | 0 => fun _ _ _ r h => by simp [spec_Join.l0] at h
  | k + 1 => by
    have ih0 := spec_Join.mono_l k
    · intro y0 y1 y2
      unfold spec_Join.l0
      repeat' first
      | (with_reducible exact ih0 _ _ _)
      | (with_reducible exact LeO.refl _)
      | (with_reducible exact LeO.none _)
      | (with_reducible refine LeO.ite ?_ ?_)
      | (with_reducible refine LeO.bind ?_ (fun _ => ?_))
      | exact ih0 _ _ _
      | exact LeO.none _
      | refine LeO.ite ?_ ?_
      | refine LeO.bind ?_ (fun _ => ?_)
theorem spec_Join.mono : ∀ a0 k, LeO (spec_Join.f k a0) (spec_Join.f (k + 1) a0) := by
  intro a0 k
  have ih0 := spec_Join.mono_l k
  unfold spec_Join.f
  repeat' first
      | (with_reducible exact ih0 _ _ _)
      | (with_reducible exact LeO.refl _)
      | (with_reducible exact LeO.none _)
      | (with_reducible refine LeO.ite ?_ ?_)
      | (with_reducible refine LeO.bind ?_ (fun _ => ?_))
      | exact ih0 _ _ _
      | exact LeO.none _
      | refine LeO.ite ?_ ?_
      | refine LeO.bind ?_ (fun _ => ?_)
set_option maxHeartbeats 8000000 in
set_option maxRecDepth 100000 in
theorem spec_Join.calls (k : Nat) (A0 : Option Addr) (c0 : Nat) (l0 : List ByteArray) (r : ByteArray) (w : World) (hr0 : Kd.C Kd.string w A0 l0.length l0) (hc0 : l0.length ≤ c0) (h : spec_Join.f k l0 = some r) :
    Calls Tryd.prog 47 #[.slice A0 l0.length c0] w fun e w' => e = .returned (.string r) ∧ Drawn0 w w' := by
  have HR0 := Aside0.mk hr0
  have HC0 := Aside0.mk hc0
  clear hr0 hc0
  have H : (spec_Join.l0 k l0 (⟨#[]⟩ : ByteArray) 0) = some r := h
  clear h
  have H' := Aside0.mk H
  clear H
  go_enter Tryd.func47, Tryd.ntmps47
  go_wp2
  go_loopg [3, 4] k (fun kq v3 v4 w' => ∃ (x3_1 : ByteArray) (x4_1 : Int), v3 = .string x3_1 ∧ v4 = .int .i64 x4_1 ∧ Aside0 (spec_Join.l0 kq l0 x3_1 x4_1 = some r) ∧ Aside0 (kq ≤ k) ∧ Drawn0 w w')
  case atStart => exact ⟨((⟨#[]⟩ : ByteArray)), (0), (by first | rfl | (simp; done) | (simp [*]; done)), (by first | rfl | (simp; done) | (simp [*]; done)), H', ⟨Nat.le_refl _⟩, by repeat (first | exact Drawn0.refl _ | apply Drawn0.step)⟩
  case round =>
    clear H'
    obtain ⟨x3_1, x4_1, rfl, rfl, HA, HK1, ⟨m1, rfl⟩⟩ := hrel
    cases gk with
    | zero => exact absurd HA.out (by simp [spec_Join.l0])
    | succ k1 =>
      have H := HA.out
      clear HA
      simp only [spec_Join.l0] at H
      by_cases c2 : x4_1 < (l0.length : Int)
      · rw [if_pos c2] at H
        have c2b0 : decide (x4_1 < (l0.length : Int)) = true := decide_eq_true c2
        clear c2
        by_cases c3 : x4_1 > 0
        · rw [if_pos c3] at H
          have c3b0 : decide (0 < x4_1) = true := decide_eq_true c3
          clear c3
          by_cases c4 : x3_1.size + 1 ≤ 9223372036854775807
          · rw [if_pos c4] at H
            have c4b0 := eq_true c4
            have c4b1 : decide (x3_1.size + 1 ≤ 9223372036854775807) = true := decide_eq_true c4
            try have c4b2 : (9223372036854775807 < x3_1.size + 1) = False := eq_false (Nat.not_lt.2 c4)
            by_cases c5 : 0 ≤ x4_1
            · rw [if_pos c5] at H
              have c5b0 : decide (0 ≤ x4_1) = true := decide_eq_true c5
              clear c5
              by_cases c6 : (x3_1 ++ (⟨#[46]⟩ : ByteArray)).size + (rdOf ByteArray.empty l0 x4_1).size ≤ 9223372036854775807
              · rw [if_pos c6] at H
                have c6b0 := eq_true c6
                have c6b1 : decide ((x3_1 ++ (⟨#[46]⟩ : ByteArray)).size + (rdOf ByteArray.empty l0 x4_1).size ≤ 9223372036854775807) = true := decide_eq_true c6
                try have c6b2 : (9223372036854775807 < (x3_1 ++ (⟨#[46]⟩ : ByteArray)).size + (rdOf ByteArray.empty l0 x4_1).size) = False := eq_false (Nat.not_lt.2 c6)
                try (have c6b9 := c6b2; simp only [ByteArray.size_append, Road.size_lit, List.size_toArray, List.length_cons, List.length_nil, Nat.reduceAdd] at c6b9)
                have H' := Aside0.mk H
                clear H
                have p116 : 0 ≤ (x4_1 : Int) := of_decide_eq_true (by first | (with_reducible assumption) | assumption)
                have q116 : x4_1 < (l0.length : Int) := of_decide_eq_true (by first | (with_reducible assumption) | assumption)
                obtain ⟨ad116, e116, hx116_0⟩ := Kd.at_string HR0.out x4_1 p116 q116
                cases e116
                replace p116 := eq_true p116
                replace q116 := eq_true q116
                go_wp2
                go_roundg k1
                case measure => have := HK1.out; omega
                case rel => exact ⟨((x3_1 ++ (⟨#[46]⟩ : ByteArray)) ++ (rdOf ByteArray.empty l0 x4_1)), (wrap64 (x4_1 + 1)), (by first | rfl | (simp; done) | (simp [*]; done)), (by first | rfl | (simp; done) | (simp [*]; done)), H', ⟨by have := HK1.out; omega⟩, by repeat (first | exact Drawn0.refl _ | apply Drawn0.step)⟩
              · rw [if_neg c6] at H
                exact absurd H (by simp)
            · rw [if_neg c5] at H
              exact absurd H (by simp)
          · rw [if_neg c4] at H
            exact absurd H (by simp)
        · rw [if_neg c3] at H
          have c3b0 : decide (0 < x4_1) = false := decide_eq_false c3
          clear c3
          by_cases c7 : 0 ≤ x4_1
          · rw [if_pos c7] at H
            have c7b0 : decide (0 ≤ x4_1) = true := decide_eq_true c7
            clear c7
            by_cases c8 : x3_1.size + (rdOf ByteArray.empty l0 x4_1).size ≤ 9223372036854775807
            · rw [if_pos c8] at H
              have c8b0 := eq_true c8
              have c8b1 : decide (x3_1.size + (rdOf ByteArray.empty l0 x4_1).size ≤ 9223372036854775807) = true := decide_eq_true c8
              try have c8b2 : (9223372036854775807 < x3_1.size + (rdOf ByteArray.empty l0 x4_1).size) = False := eq_false (Nat.not_lt.2 c8)
              have H' := Aside0.mk H
              clear H
              have p117 : 0 ≤ (x4_1 : Int) := of_decide_eq_true (by first | (with_reducible assumption) | assumption)
              have q117 : x4_1 < (l0.length : Int) := of_decide_eq_true (by first | (with_reducible assumption) | assumption)
              obtain ⟨ad117, e117, hx117_0⟩ := Kd.at_string HR0.out x4_1 p117 q117
              cases e117
              replace p117 := eq_true p117
              replace q117 := eq_true q117
              go_wp2
              go_roundg k1
              case measure => have := HK1.out; omega
              case rel => exact ⟨(x3_1 ++ (rdOf ByteArray.empty l0 x4_1)), (wrap64 (x4_1 + 1)), (by first | rfl | (simp; done) | (simp [*]; done)), (by first | rfl | (simp; done) | (simp [*]; done)), H', ⟨by have := HK1.out; omega⟩, by repeat (first | exact Drawn0.refl _ | apply Drawn0.step)⟩
            · rw [if_neg c8] at H
              exact absurd H (by simp)
          · rw [if_neg c7] at H
            exact absurd H (by simp)
      · rw [if_neg c2] at H
        have c2b0 : decide (x4_1 < (l0.length : Int)) = false := decide_eq_false c2
        clear c2
        obtain rfl := Option.some.inj H
        go_wp2
        go_ret
        exact ⟨by first | rfl | (simp; done) | (simp [*]; done) | (simp; generalize ByteArray.toList _ = l_; cases l_ <;> rfl), by repeat (first | exact Drawn0.refl _ | apply Drawn0.step)⟩

/-! ### spec_TopicSubject: function 30 -/
def spec_TopicSubject.l0 : Nat → List ByteArray → List ByteArray → Int → Option (ByteArray)
  | 0, _, _, _ => none
  | k + 1, x3, x4, x5 => if x5 < (x4.length : Int) then (if 0 ≤ x5 then ((spec_level.f k (rdOf ByteArray.empty x4 x5)).bind fun t122 => (if x3.length < 8796093022208 then (spec_TopicSubject.l0 k (x3 ++ [t122]) x4 (wrap64 (x5 + 1))) else (none))) else (none)) else ((spec_Join.f k x3).bind fun t126 => (some t126))
def spec_TopicSubject.f (k : Nat) (a0 : ByteArray) : Option (ByteArray) := (spec_levels.f k a0).bind fun t118 => (spec_TopicSubject.l0 k ([] : List ByteArray) t118 0)
theorem spec_TopicSubject.mono_l : ∀ k, (∀ y0 y1 y2, LeO (spec_TopicSubject.l0 k y0 y1 y2) (spec_TopicSubject.l0 (k + 1) y0 y1 y2))
  | 0 => fun _ _ _ r h => by simp [spec_TopicSubject.l0] at h
  | k + 1 => by
    have ih0 := spec_TopicSubject.mono_l k
    · intro y0 y1 y2
      unfold spec_TopicSubject.l0
      repeat' first
      | (with_reducible exact ih0 _ _ _)
      | (with_reducible exact spec_Join.mono _ _)
      | (with_reducible exact spec_level.mono _ _)
      | (with_reducible exact spec_levels.mono _ _)
      | (with_reducible exact LeO.refl _)
      | (with_reducible exact LeO.none _)
      | (with_reducible refine LeO.ite ?_ ?_)
      | (with_reducible refine LeO.bind ?_ (fun _ => ?_))
      | exact ih0 _ _ _
      | exact spec_Join.mono _ _
      | exact spec_level.mono _ _
      | exact spec_levels.mono _ _
      | exact LeO.none _
      | refine LeO.ite ?_ ?_
      | refine LeO.bind ?_ (fun _ => ?_)
theorem spec_TopicSubject.mono : ∀ a0 k, LeO (spec_TopicSubject.f k a0) (spec_TopicSubject.f (k + 1) a0) := by
  intro a0 k
  have ih0 := spec_TopicSubject.mono_l k
  unfold spec_TopicSubject.f
  repeat' first
      | (with_reducible exact ih0 _ _ _)
      | (with_reducible exact spec_Join.mono _ _)
      | (with_reducible exact spec_level.mono _ _)
      | (with_reducible exact spec_levels.mono _ _)
      | (with_reducible exact LeO.refl _)
      | (with_reducible exact LeO.none _)
      | (with_reducible refine LeO.ite ?_ ?_)
      | (with_reducible refine LeO.bind ?_ (fun _ => ?_))
      | exact ih0 _ _ _
      | exact spec_Join.mono _ _
      | exact spec_level.mono _ _
      | exact spec_levels.mono _ _
      | exact LeO.none _
      | refine LeO.ite ?_ ?_
      | refine LeO.bind ?_ (fun _ => ?_)
set_option maxHeartbeats 8000000 in
set_option maxRecDepth 100000 in
theorem spec_TopicSubject.calls (k : Nat) (a0 : ByteArray) (r : ByteArray) (w : World) (h : spec_TopicSubject.f k a0 = some r) :
    Calls Tryd.prog 30 #[.string a0] w fun e w' => e = .returned (.string r) ∧ Below w.heap.size w w' := by
  have HB := Aside0.mk (Below.refl w.heap.size w)
  have H : ((spec_levels.f k a0).bind fun t118 => (spec_TopicSubject.l0 k ([] : List ByteArray) t118 0)) = some r := h
  clear h
  replace H := Option.bind_eq_some_iff.mp H
  obtain ⟨t118, A20, H⟩ := H
  replace H : (spec_TopicSubject.l0 k ([] : List ByteArray) t118 0) = some r := H
  have A2 := Aside0.mk A20
  clear A20
  have H' := Aside0.mk H
  clear H
  go_enter Tryd.func30, Tryd.ntmps30
  go_wp2_with (first | ((with_reducible refine gate_callee (f := 45) rfl ?_); refine goesL_ (some 7) rfl rfl Tryd.func45 (by kernel_rfl) rfl #[.string a0] rfl (by (try simp only [List.map_toArray, List.map_cons, List.map_nil]); first | done | rfl | (simp only [List.length_drop, List.length_take]; rfl)) ?_; (with_reducible refine (spec_levels.calls k a0 t118 _ A2.out).mono ?_); rintro e w3 ⟨v119, rfl, ho0, hb⟩; refine ⟨_, rfl, ?_⟩; have n0_ := Aside0.mk (Kd.R_lower ho0 (below_size (by repeat (first | (with_reducible first | exact HB.out | apply below_alloc | apply pw_below_drewN | apply below_drew1) | exact HB.out)))); have n1_ := Aside0.mk (below_step (by repeat (first | (with_reducible first | exact HB.out | apply below_alloc | apply pw_below_drewN | apply below_drew1) | exact HB.out)) hb); clear HB; have HO120 := n0_; have HB := n1_; clear n0_ n1_; (try clear hb); (try clear hb2); (try clear hk); (try clear hi); (try clear ho0)))
  go_loopg [3, 5] k (fun kq v3 v5 w' => ∃ (x3_1 : List ByteArray) (x5_1 : Int), v5 = .int .i64 x5_1 ∧ Aside0 (spec_TopicSubject.l0 kq x3_1 t118 x5_1 = some r) ∧ Aside0 (kq ≤ k) ∧ Aside0 (Kd.R Kd.string 9 w' w.heap.size (fun k_ => some k_ ≠ (v119 : Value).ownBlock) v3 x3_1) ∧ Aside0 (Kd.R Kd.string 9 w' w.heap.size (fun k_ => some k_ ≠ (v3 : Value).ownBlock) v119 t118) ∧ Aside0 (Below w.heap.size w w'))
  case atStart => exact ⟨(([] : List ByteArray)), (0), (by first | rfl | (simp; done) | (simp [*]; done)), H', ⟨Nat.le_refl _⟩, ⟨by first | exact Kd.R_nil _ _ _ _ _ | exact Kd.N_nil _ _ _ _ _ | exact Kd.V_nil _ _ _ _ _ | exact Kd.Q_nil _ _ _ _ _ | exact Kd.S_nil _ _ _ _ _⟩, ⟨by (with_reducible repeat (first | apply Kd.R_alloc | apply Kd.R_drewN | apply Kd.R_drew)); exact Kd.R_mono HO120.out (fun _ hk => (by simp [Value.ownBlock]))⟩, ⟨by repeat (first | (with_reducible first | exact HB.out | apply below_alloc | apply pw_below_drewN | apply below_drew1) | exact HB.out)⟩⟩
  case round =>
    clear H'
    try clear p2
    try clear c3
    obtain ⟨x3_1, x5_1, rfl, HA, HK1, HO_3, HO_4, HB⟩ := hrel
    cases gk with
    | zero => exact absurd HA.out (by simp [spec_TopicSubject.l0])
    | succ k1 =>
      have H := HA.out
      clear HA
      simp only [spec_TopicSubject.l0] at H
      by_cases c4 : x5_1 < (t118.length : Int)
      · rw [if_pos c4] at H
        have c4b0 : decide (x5_1 < (t118.length : Int)) = true := decide_eq_true c4
        clear c4
        by_cases c5 : 0 ≤ x5_1
        · rw [if_pos c5] at H
          have c5b0 : decide (0 ≤ x5_1) = true := decide_eq_true c5
          clear c5
          replace H := Option.bind_eq_some_iff.mp H
          obtain ⟨t122, A60, H⟩ := H
          replace H : (if x3_1.length < 8796093022208 then (spec_TopicSubject.l0 k1 (x3_1 ++ [t122]) t118 (wrap64 (x5_1 + 1))) else (none)) = some r := H
          have A6 := Aside0.mk A60
          clear A60
          by_cases c7 : x3_1.length < 8796093022208
          · rw [if_pos c7] at H
            have LMc7 := Aside0.mk c7
            clear c7
            obtain ⟨y123, hy123⟩ : ∃ y_ : List ByteArray, y_ = (x3_1 ++ [t122]) := ⟨_, rfl⟩
            replace H : (spec_TopicSubject.l0 k1 y123 t118 (wrap64 (x5_1 + 1))) = some r := by first | (rw [hy123]; with_reducible exact H) | (have H2_ := (Option.bind_some _ _).symm.trans H; rw [hy123]; with_reducible exact H2_) | (have H2_ := (Option.bind_some _ _).symm.trans H; with_reducible exact H2_) | with_reducible exact H | (rw [hy123]; exact H) | exact H
            have Ny123 := Aside0.mk hy123
            clear hy123
            have H' := Aside0.mk H
            clear H
            obtain ⟨Ao8, co8, eo8⟩ := Kd.R_slice HO_4.out
            subst eo8
            have p121 : 0 ≤ (x5_1 : Int) := of_decide_eq_true (by first | (with_reducible assumption) | assumption)
            have q121 : x5_1 < (t118.length : Int) := of_decide_eq_true (by first | (with_reducible assumption) | assumption)
            obtain ⟨ad121, e121, hx121_0⟩ := Kd.at_string (Kd.R_reads' HO_4.out).2.2 x5_1 p121 q121
            cases e121
            replace p121 := eq_true p121
            replace q121 := eq_true q121
            go_wp2_with (first | ((with_reducible refine gate_callee (f := 46) rfl ?_); refine goesL_ (some 19) rfl rfl Tryd.func46 (by kernel_rfl) rfl #[.string (rdOf ByteArray.empty t118 x5_1)] rfl (by (try simp only [List.map_toArray, List.map_cons, List.map_nil]); first | done | rfl | (simp only [List.length_drop, List.length_take]; rfl)) ?_; (with_reducible refine (spec_level.calls k1 (rdOf ByteArray.empty t118 x5_1) t122 _ A6.out).mono ?_); rintro e w' ⟨rfl, ⟨nd, rfl⟩⟩; refine ⟨_, rfl, ?_⟩) | ((with_reducible refine gate_builtin (b := .append) (xs := #[.tmp 14, .tmp 20]) rfl ?_); at_builtin; refine Kd.R_append Kd.string (w0 := w) w.heap.size rfl (.tmp 14) (.tmp 20) 64 9 (.string ⟨#[]⟩) 16 rfl Tryd.underlying64 info9 rfl (by decide) (by omega) u3 x3_1 t122 [.string t122] (fun k_ => some k_ ≠ (.slice (some ad121) t118.length co8 : Value).ownBlock) (fun _ => False) rfl rfl ?aP (fun _ hk => hk.elim) ?aF ?aO ?aB ?aS ?aL ?_; (case aP => exact rfl); (case aB => exact (by repeat (first | (with_reducible first | exact HB.out | apply below_alloc | apply pw_below_drewN | apply below_drew1) | exact HB.out))); (case aF => exact (fun k_ hk => Kd.fresh' (Kd.R_lt (by (with_reducible repeat (first | apply Kd.R_alloc | apply Kd.R_drewN | apply Kd.R_drew)); exact HO_4.out)) k_ hk)); (case aO => exact (by (with_reducible repeat (first | apply Kd.R_alloc | apply Kd.R_drewN | apply Kd.R_drew)); exact HO_3.out)); (case aS => exact (below_size (by repeat (first | (with_reducible first | exact HB.out | apply below_alloc | apply pw_below_drewN | apply below_drew1) | exact HB.out)))); (case aL => have := LMc7.out; omega); intro v124 w9 ho hb hg hat; rw [← Ny123.out] at ho; have n0_ := Aside0.mk (Kd.R_after (ok := (fun _ => True)) (by (with_reducible repeat (first | apply Kd.R_alloc | apply Kd.R_drewN | apply Kd.R_drew)); exact Kd.R_mono HO_4.out (fun _ hk => ⟨trivial, hk⟩)) hg hat); have n1_ := Aside0.mk (hb); have n2_ := Aside0.mk (ho); clear HO_4; clear HB; clear HO_3; have HO_4 := n0_; have HB := n1_; have HO125 := n2_; clear n0_ n1_ n2_; clear ho hb hg hat))
            go_roundg k1
            case measure => have := HK1.out; omega
            case rel => exact ⟨(y123), (wrap64 (x5_1 + 1)), (by first | rfl | (simp; done) | (simp [*]; done)), H', ⟨by have := HK1.out; omega⟩, ⟨by (with_reducible repeat (first | apply Kd.R_alloc | apply Kd.R_drewN | apply Kd.R_drew)); exact HO125.out⟩, ⟨by (with_reducible repeat (first | apply Kd.R_alloc | apply Kd.R_drewN | apply Kd.R_drew)); exact Kd.R_mono HO_4.out (fun _ hk => hk.2)⟩, ⟨by repeat (first | (with_reducible first | exact HB.out | apply below_alloc | apply pw_below_drewN | apply below_drew1) | exact HB.out)⟩⟩
          · rw [if_neg c7] at H
            exact absurd H (by simp)
        · rw [if_neg c5] at H
          exact absurd H (by simp)
      · rw [if_neg c4] at H
        have c4b0 : decide (x5_1 < (t118.length : Int)) = false := decide_eq_false c4
        clear c4
        replace H := Option.bind_eq_some_iff.mp H
        obtain ⟨t126, A100, H⟩ := H
        replace H : (some t126) = some r := H
        have A10 := Aside0.mk A100
        clear A100
        obtain rfl := Option.some.inj H
        obtain ⟨Ao11, co11, eo11⟩ := Kd.R_slice HO_4.out
        subst eo11
        obtain ⟨Ao12, co12, eo12⟩ := Kd.R_slice HO_3.out
        subst eo12
        go_wp2_with (first | ((with_reducible refine gate_callee (f := 47) rfl ?_); refine goesL_ (some 23) rfl rfl Tryd.func47 (by kernel_rfl) rfl #[.slice Ao12 x3_1.length co12] rfl (by (try simp only [List.map_toArray, List.map_cons, List.map_nil]); first | done | rfl | (simp only [List.length_drop, List.length_take]; rfl)) ?_; (with_reducible refine (spec_Join.calls k1 _ _ x3_1 t126 _ ?side1 ?side2 A10.out).mono ?_); (case side1 => repeat (first | exact (Kd.R_reads' HO_3.out).2.2 | (with_reducible refine Kd.C_alloc ?_ _) | (with_reducible refine Kd.C_drewN ?_ _) | (with_reducible refine Kd.C_drew ?_))); (case side2 => exact (Kd.R_reads' HO_3.out).2.1); rintro e w' ⟨rfl, ⟨nd, rfl⟩⟩; refine ⟨_, rfl, ?_⟩))
        go_ret
        exact ⟨by first | rfl | (simp [errW_none, errW_some] <;> rfl) | (simp [*, errW_none, errW_some] <;> rfl) | (simp [errW_none, errW_some]; generalize ByteArray.toList _ = l_; cases l_ <;> rfl), by repeat (first | (with_reducible first | exact HB.out | apply below_alloc | apply pw_below_drewN | apply below_drew1) | exact HB.out)⟩

-- NOT PRINTED: function 69 (bytealg_IndexByte)

-- NOT PRINTED: function 63 (bytes_IndexByte)

-- NOT PRINTED: function 64 (server_stringToBytes)

/-! ### server_zzIndex: function 70 -/
def server_zzIndex.l0 : Nat → ByteArray → ByteArray → Int → Option (Int)
  | 0, _, _, _ => none
  | k + 1, x0, x1, x5 => if (wrap64 (x5 + (x1.size : Int))) ≤ (x0.size : Int) then (if 0 ≤ x5 then (if x5 ≤ (wrap64 (x5 + (x1.size : Int))) then (if (x0.extract (x5 : Int).toNat ((wrap64 (x5 + (x1.size : Int))) : Int).toNat).toList = x1.toList then (some x5) else (server_zzIndex.l0 k x0 x1 (wrap64 (x5 + 1)))) else (none)) else (none)) else (some (-1))
def server_zzIndex.f (k : Nat) (a0 : ByteArray) (a1 : ByteArray) : Option (Int) := server_zzIndex.l0 k a0 a1 0
theorem server_zzIndex.mono_l : ∀ k, (∀ y0 y1 y2, LeO (server_zzIndex.l0 k y0 y1 y2) (server_zzIndex.l0 (k + 1) y0 y1 y2))
  | 0 => fun _ _ _ r h => by simp [server_zzIndex.l0] at h
  | k + 1 => by
    have ih0 := server_zzIndex.mono_l k
    · intro y0 y1 y2
      unfold server_zzIndex.l0
      repeat' first
      | (with_reducible exact ih0 _ _ _)
      | (with_reducible exact LeO.refl _)
      | (with_reducible exact LeO.none _)
      | (with_reducible refine LeO.ite ?_ ?_)
      | (with_reducible refine LeO.bind ?_ (fun _ => ?_))
      | exact ih0 _ _ _
      | exact LeO.none _
      | refine LeO.ite ?_ ?_
      | refine LeO.bind ?_ (fun _ => ?_)
theorem server_zzIndex.mono : ∀ a0 a1 k, LeO (server_zzIndex.f k a0 a1) (server_zzIndex.f (k + 1) a0 a1) := by
  intro a0 a1 k
  have ih0 := server_zzIndex.mono_l k
  unfold server_zzIndex.f
  repeat' first
      | (with_reducible exact ih0 _ _ _)
      | (with_reducible exact LeO.refl _)
      | (with_reducible exact LeO.none _)
      | (with_reducible refine LeO.ite ?_ ?_)
      | (with_reducible refine LeO.bind ?_ (fun _ => ?_))
      | exact ih0 _ _ _
      | exact LeO.none _
      | refine LeO.ite ?_ ?_
      | refine LeO.bind ?_ (fun _ => ?_)
set_option maxHeartbeats 8000000 in
set_option maxRecDepth 100000 in
theorem server_zzIndex.calls (k : Nat) (a0 : ByteArray) (a1 : ByteArray) (r : Int) (w : World) (h : server_zzIndex.f k a0 a1 = some r) :
    Calls Tryd.prog 70 #[.string a0, .string a1] w fun e w' => e = .returned (.int .i64 r) ∧ Drawn0 w w' := by
  have H : (server_zzIndex.l0 k a0 a1 0) = some r := h
  clear h
  have H' := Aside0.mk H
  clear H
  go_enter Tryd.func70, Tryd.ntmps70
  go_wp2
  go_loopg [5] k (fun kq v5 w' => ∃ (x5_1 : Int), v5 = .int .i64 x5_1 ∧ Aside0 (server_zzIndex.l0 kq a0 a1 x5_1 = some r) ∧ Aside0 (kq ≤ k) ∧ Drawn0 w w')
  case atStart => exact ⟨(0), (by first | rfl | (simp; done) | (simp [*]; done)), H', ⟨Nat.le_refl _⟩, by repeat (first | exact Drawn0.refl _ | apply Drawn0.step)⟩
  case round =>
    clear H'
    try clear p2
    obtain ⟨x5_1, rfl, HA, HK1, ⟨m1, rfl⟩⟩ := hrel
    cases gk with
    | zero => exact absurd HA.out (by simp [server_zzIndex.l0])
    | succ k1 =>
      have H := HA.out
      clear HA
      simp only [server_zzIndex.l0] at H
      by_cases c3 : (wrap64 (x5_1 + (a1.size : Int))) ≤ (a0.size : Int)
      · rw [if_pos c3] at H
        have c3b0 : decide ((wrap64 (x5_1 + (a1.size : Int))) ≤ (a0.size : Int)) = true := decide_eq_true c3
        clear c3
        by_cases c4 : 0 ≤ x5_1
        · rw [if_pos c4] at H
          have c4b0 := eq_true c4
          have c4b1 : decide (0 ≤ x5_1) = true := decide_eq_true c4
          clear c4
          by_cases c5 : x5_1 ≤ (wrap64 (x5_1 + (a1.size : Int)))
          · rw [if_pos c5] at H
            have c5b0 := eq_true c5
            have c5b1 : decide (x5_1 ≤ (wrap64 (x5_1 + (a1.size : Int)))) = true := decide_eq_true c5
            have c6b0 := eq_true (of_decide_eq_true (by first | (with_reducible assumption) | assumption) : (wrap64 (x5_1 + (a1.size : Int))) ≤ (a0.size : Int))
            by_cases c7 : (a0.extract (x5_1 : Int).toNat ((wrap64 (x5_1 + (a1.size : Int))) : Int).toNat).toList = a1.toList
            · rw [if_pos c7] at H
              have c7b0 : ((a0.extract (x5_1 : Int).toNat ((wrap64 (x5_1 + (a1.size : Int))) : Int).toNat).toList == a1.toList) = true := beq_iff_eq.mpr c7
              have c7b1 : ((a0.extract (x5_1 : Int).toNat ((wrap64 (x5_1 + (a1.size : Int))) : Int).toNat).toList != a1.toList) = false := bne_eq_false_iff_eq.mpr c7
              clear c7
              obtain rfl := Option.some.inj H
              go_wp2
              go_ret
              exact ⟨by first | rfl | (simp; done) | (simp [*]; done) | (simp; generalize ByteArray.toList _ = l_; cases l_ <;> rfl), by repeat (first | exact Drawn0.refl _ | apply Drawn0.step)⟩
            · rw [if_neg c7] at H
              have c7b0 : ((a0.extract (x5_1 : Int).toNat ((wrap64 (x5_1 + (a1.size : Int))) : Int).toNat).toList == a1.toList) = false := beq_eq_false_iff_ne.mpr c7
              have c7b1 : ((a0.extract (x5_1 : Int).toNat ((wrap64 (x5_1 + (a1.size : Int))) : Int).toNat).toList != a1.toList) = true := bne_iff_ne.mpr c7
              have H' := Aside0.mk H
              clear H
              go_wp2
              go_roundg k1
              case measure => have := HK1.out; omega
              case rel => exact ⟨(wrap64 (x5_1 + 1)), (by first | rfl | (simp; done) | (simp [*]; done)), H', ⟨by have := HK1.out; omega⟩, by repeat (first | exact Drawn0.refl _ | apply Drawn0.step)⟩
          · rw [if_neg c5] at H
            exact absurd H (by simp)
        · rw [if_neg c4] at H
          exact absurd H (by simp)
      · rw [if_neg c3] at H
        have c3b0 : decide ((wrap64 (x5_1 + (a1.size : Int))) ≤ (a0.size : Int)) = false := decide_eq_false c3
        clear c3
        obtain rfl := Option.some.inj H
        go_wp2
        go_ret
        exact ⟨by first | rfl | (simp; done) | (simp [*]; done) | (simp; generalize ByteArray.toList _ = l_; cases l_ <;> rfl), by repeat (first | exact Drawn0.refl _ | apply Drawn0.step)⟩

/-! ### server_zzSplit: function 65 -/
def server_zzSplit.f (a0 a1 : ByteArray) : Option (List ByteArray) := if a1 = ⟨#[46]⟩ ∧ a0.size ≤ 2147483647 then some (Road.tokB a0) else none
theorem server_zzIndex.dot (s : ByteArray) (hs : s.size ≤ 2147483647) : ∀ (n x : Nat), x + n = s.size → ∃ r, server_zzIndex.l0 (n + 1) s ⟨#[46]⟩ (x : Int) = some r ∧ ((r = -1 ∧ ∀ i (hi : i < (Road.bl s).length), x ≤ i → (Road.bl s)[i] ≠ 46) ∨ ∃ m : Nat, r = (m : Int) ∧ x ≤ m ∧ ∃ h : m < (Road.bl s).length, (Road.bl s)[m] = 46 ∧ ∀ i (hi : i < m), x ≤ i → (Road.bl s)[i]'(by omega) ≠ 46)
  | 0, x, hx => by
    have hl := Road.bl_len s
    refine ⟨-1, ?_, .inl ⟨rfl, fun i hi hxi => by omega⟩⟩
    have e : wrap64 ((x : Int) + 1) = (x : Int) + 1 := by unfold wrap64; omega
    rw [server_zzIndex.l0, show ((⟨#[46]⟩ : ByteArray).size : Int) = 1 from rfl, e, if_neg (by omega)]
  | n + 1, x, hx => by
    have hl := Road.bl_len s
    have e : wrap64 ((x : Int) + 1) = (x : Int) + 1 := by unfold wrap64; omega
    have hxl : x < (Road.bl s).length := by omega
    have et : (s.extract ((x : Int)).toNat ((x : Int) + 1).toNat).toList = [(Road.bl s)[x]] := by
      rw [Road.extract_mkB, Road.toList_mkB, show ((x : Int) + 1).toNat = x + 1 by omega, Int.toNat_natCast, List.drop_take, List.drop_eq_getElem_cons hxl, show x + 1 - x = 1 by omega]
      rfl
    rw [server_zzIndex.l0, show ((⟨#[46]⟩ : ByteArray).size : Int) = 1 from rfl, e, if_pos (by omega), if_pos (by omega), if_pos (by omega), et, show (⟨#[46]⟩ : ByteArray).toList = [46] from by rw [Road.toList_bl]; rfl]
    by_cases hc : (Road.bl s)[x] = 46
    · exact ⟨_, if_pos (by rw [hc]), .inr ⟨x, rfl, Nat.le_refl _, hxl, hc, fun i hi hxi => by omega⟩⟩
    · rw [if_neg (by intro g; exact hc (List.cons.inj g).1)]
      obtain ⟨r, hr, hp⟩ := server_zzIndex.dot s hs n (x + 1) (by omega)
      refine ⟨r, by exact_mod_cast hr, ?_⟩
      rcases hp with ⟨h1, h2⟩ | ⟨m, h1, h2, h3, h4, h5⟩
      · refine .inl ⟨h1, fun i hi hxi => ?_⟩
        by_cases hxe : i = x
        · subst hxe; exact hc
        · exact h2 i hi (by omega)
      · refine .inr ⟨m, h1, by omega, h3, h4, fun i hi hxi => ?_⟩
        by_cases hxe : i = x
        · subst hxe; exact hc
        · exact h5 i hi (by omega)
theorem server_zzSplit.toks_no (acc l : Road.Bs) (h : ∀ i (hi : i < l.length), l[i] ≠ 46) : Road.toks acc l = [acc ++ l] := by
  induction l generalizing acc with
  | nil => simp [Road.toks]
  | cons c l ih =>
    rw [Road.toks, if_neg (show ¬ c = 46 from h 0 (Nat.zero_lt_succ _)), ih _ (fun i hi => h (i + 1) (Nat.succ_lt_succ hi))]
    simp
theorem server_zzSplit.toks_at (acc l : Road.Bs) (m : Nat) (hm : m < l.length) (h46 : l[m] = 46) (h : ∀ i (hi : i < m), l[i] ≠ 46) : Road.toks acc l = (acc ++ l.take m) :: Road.toks [] (l.drop (m + 1)) := by
  induction l generalizing acc m with
  | nil => simp at hm
  | cons c l ih =>
    cases m with
    | zero =>
      simp at h46
      rw [Road.toks, if_pos h46]
      simp
    | succ m =>
      rw [Road.toks, if_neg (show ¬ c = 46 from h 0 (by omega)), ih _ m (Nat.lt_of_succ_lt_succ hm) h46 (fun i hi => h (i + 1) (by omega))]
      simp
def server_zzSplit.SplitAt (s : ByteArray) (out : List ByteArray) (t : ByteArray) : Prop := out ++ Road.tokB t = Road.tokB s ∧ out.length + t.size ≤ s.size
theorem server_zzSplit.no {s t : ByteArray} {out : List ByteArray} (h : server_zzSplit.SplitAt s out t) (hn : ∀ i (hi : i < (Road.bl t).length), (Road.bl t)[i] ≠ 46) : out ++ [t] = Road.tokB s := by
  rw [← h.1, Road.tokB, server_zzSplit.toks_no _ _ hn]
  simp [Road.mkB_bl]
theorem server_zzSplit.at {s t : ByteArray} {out : List ByteArray} {m : Nat} (h : server_zzSplit.SplitAt s out t) (hm : m < (Road.bl t).length) (h46 : (Road.bl t)[m] = 46) (hn : ∀ i (hi : i < m), (Road.bl t)[i] ≠ 46) : server_zzSplit.SplitAt s (out ++ [t.extract 0 m]) (t.extract (m + 1) t.size) := by
  have hl := Road.bl_len t
  constructor
  · rw [← h.1, Road.tokB, Road.tokB, server_zzSplit.toks_at _ _ m hm h46 hn, Road.extract_mkB, Road.extract_mkB, Road.bl_mkB, ← hl, List.take_length]
    simp
  · have := h.2
    have e : (t.extract (m + 1) t.size).size = t.size - (m + 1) := by simp
    rw [e, List.length_append, List.length_singleton]
    omega
def server_zzSplit.strSize : Value → Nat
  | .string s => s.size
  | _ => 0
set_option maxHeartbeats 4000000 in
set_option maxRecDepth 100000 in
theorem server_zzSplit.calls (a0 a1 : ByteArray) (r : List ByteArray) (w : World) (h : server_zzSplit.f a0 a1 = some r) :
    Calls Tryd.prog 65 #[.string a0, .string a1] w fun e w' => ∃ v0_ : Value, e = .returned (v0_) ∧ Kd.R Kd.string 9 w' w.heap.size (fun _ => True) v0_ r ∧ Below w.heap.size w w' := by
  unfold server_zzSplit.f at h
  split at h
  · rename_i hc
    obtain ⟨rfl, hs⟩ := hc
    obtain rfl := Option.some.inj h
    clear h
    have HB := Aside0.mk (Below.refl w.heap.size w)
    have HS := Aside0.mk hs
    clear hs
    have c0b0 : (((⟨#[46]⟩ : ByteArray).size : Int) == 0) = false := rfl
    go_enter Tryd.func65, Tryd.ntmps65
    go_wp2
    go_loopw [0, 5] (fun v0 v5 w' => ∃ (t : ByteArray) (out : List ByteArray), v0 = .string t ∧ Aside0 (server_zzSplit.SplitAt a0 out t) ∧ Aside0 (Kd.R Kd.string 9 w' w.heap.size (fun _ => True) v5 out) ∧ Aside0 (Below w.heap.size w w')) (fun v0 _ _ => server_zzSplit.strSize v0)
    case atStart => exact ⟨a0, [], rfl, ⟨by simp [server_zzSplit.SplitAt]⟩, ⟨Kd.R_nil _ _ _ _ _⟩, HB⟩
    case round =>
      clear HB
      obtain ⟨t, out, rfl, HA, HO, HB⟩ := hrel
      have hts : t.size ≤ 2147483647 := by have := HA.out.2; have := HS.out; omega
      obtain ⟨ri, hri, hip⟩ := server_zzIndex.dot t hts t.size 0 (by omega)
      have HL := Aside0.mk (show out.length < 8796093022208 by have := HA.out.2; have := HS.out; omega)
      rcases hip with ⟨rfl, hn⟩ | ⟨m, rfl, -, hm, h46, hn⟩
      · have Hn := Aside0.mk (server_zzSplit.no HA.out (fun i hi => hn i hi (by omega)))
        clear hn HA
        replace hri : server_zzIndex.f (t.size + 1) t ⟨#[46]⟩ = some (-1) := hri
        go_wp2_with (first | (go_at_call 70; (with_reducible refine (server_zzIndex.calls _ t ⟨#[46]⟩ _ _ hri).mono ?_); rintro e w' ⟨rfl, ⟨nd, rfl⟩⟩) | ((with_reducible refine gate_builtin (b := .append) (xs := #[.tmp 42, .tmp 44]) rfl ?_); at_builtin; refine Kd.R_append Kd.string (w0 := w) w.heap.size rfl (.tmp 42) (.tmp 44) 64 9 (.string ⟨#[]⟩) 16 rfl Tryd.underlying64 info9 rfl (by decide) (by omega) u5 out (t) [.string (t)] (fun _ => True) (fun _ => False) rfl rfl ?aP (fun _ hk => hk.elim) ?aF ?aO ?aB ?aS ?aL ?_; (case aP => exact rfl); (case aB => exact (by repeat (first | (with_reducible first | exact HB.out | apply below_alloc | apply pw_below_drewN | apply below_drew1) | exact HB.out))); (case aF => exact (fun _ _ => trivial)); (case aO => exact (by (with_reducible repeat (first | apply Kd.R_alloc | apply Kd.R_drewN | apply Kd.R_drew)); exact HO.out)); (case aS => exact (below_size (by repeat (first | (with_reducible first | exact HB.out | apply below_alloc | apply pw_below_drewN | apply below_drew1) | exact HB.out)))); (case aL => have := HL.out; omega); intro va wa ho hb hg hat; have n0_ := Aside0.mk (hb); have n1_ := Aside0.mk (ho); clear HB; clear HO; have HB := n0_; have HO := n1_; clear n0_ n1_; clear ho hb hg hat))
        go_ret
        exact ⟨_, rfl, by rw [← Hn.out]; exact HO.out, HB.out⟩
      · have Hn := Aside0.mk (server_zzSplit.at HA.out hm h46 (fun i hi => hn i hi (by omega)))
        have hl := Road.bl_len t
        have hm' : m < t.size := by omega
        clear hn HA h46 hm
        replace hri : server_zzIndex.f (t.size + 1) t ⟨#[46]⟩ = some (m : Int) := hri
        have hw : wrap64 ((m : Int) + 1) = (m : Int) + 1 := by unfold wrap64; omega
        have c1b0 : decide ((m : Int) < 0) = false := decide_eq_false (by omega)
        have c2b0 : decide (0 ≤ (m : Int)) = true := decide_eq_true (by omega)
        have c3b0 : decide ((m : Int) ≤ (t.size : Int)) = true := decide_eq_true (by omega)
        have c2b1 := eq_true (show 0 ≤ (m : Int) by omega)
        have c3b1 := eq_true (show (m : Int) ≤ (t.size : Int) by omega)
        have c4b1 := eq_true (show 0 ≤ wrap64 ((m : Int) + 1) by omega)
        have c5b1 := eq_true (show wrap64 ((m : Int) + 1) ≤ (t.size : Int) by omega)
        go_wp2_with (first | (go_at_call 70; (with_reducible refine (server_zzIndex.calls _ t ⟨#[46]⟩ _ _ hri).mono ?_); rintro e w' ⟨rfl, ⟨nd, rfl⟩⟩) | ((with_reducible refine gate_builtin (b := .append) (xs := #[.tmp 46, .tmp 50]) rfl ?_); at_builtin; refine Kd.R_append Kd.string (w0 := w) w.heap.size rfl (.tmp 46) (.tmp 50) 64 9 (.string ⟨#[]⟩) 16 rfl Tryd.underlying64 info9 rfl (by decide) (by omega) u5 out (t.extract 0 (m : Int).toNat) [.string (t.extract 0 (m : Int).toNat)] (fun _ => True) (fun _ => False) rfl rfl ?aP (fun _ hk => hk.elim) ?aF ?aO ?aB ?aS ?aL ?_; (case aP => exact rfl); (case aB => exact (by repeat (first | (with_reducible first | exact HB.out | apply below_alloc | apply pw_below_drewN | apply below_drew1) | exact HB.out))); (case aF => exact (fun _ _ => trivial)); (case aO => exact (by (with_reducible repeat (first | apply Kd.R_alloc | apply Kd.R_drewN | apply Kd.R_drew)); exact HO.out)); (case aS => exact (below_size (by repeat (first | (with_reducible first | exact HB.out | apply below_alloc | apply pw_below_drewN | apply below_drew1) | exact HB.out)))); (case aL => have := HL.out; omega); intro va wa ho hb hg hat; have n0_ := Aside0.mk (hb); have n1_ := Aside0.mk (ho); clear HB; clear HO; have HB := n0_; have HO := n1_; clear n0_ n1_; clear ho hb hg hat))
        exact ⟨⟨t.extract (m + 1) t.size, _, rfl, Hn, HO, HB⟩, by simp only [server_zzSplit.strSize]; have e : (t.extract (m + 1) t.size).size = t.size - (m + 1) := (by simp); omega⟩
  · exact absurd h (by simp)


-- NOT PRINTED: function 71 (server_zzIndexAny)

/-! ### server_zzContainsAny: function 66 -/
def server_zzContainsAny.f (a0 a1 : ByteArray) : Option Bool := if Road.asciiB (Road.bl a1) = true ∧ a0.size ≤ 2147483647 ∧ a1.size ≤ 2147483647 then some (Road.hasB (Road.bl a0) (Road.bl a1)) else none
set_option maxHeartbeats 4000000 in
set_option maxRecDepth 100000 in
theorem server_zzIndexAny.walk (a0 a1 : ByteArray) (w : World) (hA : Road.asciiB (Road.bl a1) = true) (h0 : a0.size ≤ 2147483647) (h1 : a1.size ≤ 2147483647) :
    Calls Tryd.prog 71 #[.string a0, .string a1] w fun e w' => (∃ i : Int, e = .returned (.int .i64 i) ∧ decide (0 ≤ i) = Road.hasB (Road.bl a0) (Road.bl a1)) ∧ Below w.heap.size w w' := by
  have HA := Aside0.mk hA
  have H0 := Aside0.mk h0
  clear hA h0
  go_enter Tryd.func71, Tryd.ntmps71
  go_wp2
  go_loopw [4] (fun n w' => ∃ (pos : Nat), n = .int .i64 0 ∧ Aside0 (Road.RunesAt a0 a1 pos) ∧ w'.heap[w.heap.size]? = some (.stringIter a0 pos) ∧ Aside0 (Below w.heap.size w w')) (fun _ w' => a0.size - w'.iterPos w.heap.size)
  case atStart => exact ⟨0, rfl, ⟨Road.RunesAt.start _ _⟩, Road.iter_new w a0, ⟨Road.below_iter (Below.refl _ _) _ _⟩⟩
  case round =>
    obtain ⟨pos, rfl, HR, hk, HB⟩ := hrel
    by_cases hp : pos < a0.size
    · have hnx : ∀ ty, (Instr.next (.pointer (some ⟨w.heap.size, 0, none⟩)) true ty).run Tryd.prog _ = _ := fun ty => Go.Lib.run_next_any_at _ _ a0 pos ty hk hp
      have HW := Aside0.mk (Road.decode_one a0 pos hp)
      go_wp2
      have HB2 := Aside0.mk (Go.Lib.below_iterAt HB.out (Nat.le_refl _) a0 (pos + (Utf8.decode a0 pos).2))
      have hk2 := Go.Lib.iterAt_heap wr w.heap.size a0 pos (pos + (Utf8.decode a0 pos).2) hk
      have hkw := Road.iter_pos _ _ _ _ hk
      clear hnx hk HB
      generalize wr.iterAt w.heap.size a0 (pos + (Utf8.decode a0 pos).2) = W0 at HB2 hk2 ⊢
      have hlt : w.heap.size < W0.heap.size := (Array.getElem?_eq_some_iff.1 hk2).1
      go_loopw [4, 8] (fun v4 v8 w' => ∃ (p : Nat), v4 = .int .i64 0 ∧ Aside0 (Road.CharsAt a1 (Utf8.decode a0 pos).1 p) ∧ w'.heap[W0.heap.size]? = some (.stringIter a1 p) ∧ w'.heap[w.heap.size]? = some (.stringIter a0 (pos + (Utf8.decode a0 pos).2)) ∧ Aside0 (Below w.heap.size w w')) (fun _ _ w' => a1.size - w'.iterPos W0.heap.size)
      case atStart => exact ⟨0, rfl, ⟨Road.CharsAt.start _ _⟩, Road.iter_new W0 a1, Road.iter_old W0 a1 0 _ _ hk2, ⟨Road.below_iter HB2.out _ _⟩⟩
      case round =>
        clear HB2 hk2
        obtain ⟨p, rfl, HC, hkp, hko, HB⟩ := hrel
        by_cases hq : p < a1.size
        · have hnx : ∀ ty, (Instr.next (.pointer (some ⟨W0.heap.size, 0, none⟩)) true ty).run Tryd.prog _ = _ := fun ty => Go.Lib.run_next_any_at _ _ a1 p ty hkp hq
          have HB3 := Aside0.mk (Go.Lib.below_iterAt HB.out (Nat.le_of_lt hlt) a1 (p + (Utf8.decode a1 p).2))
          have hd := Road.decode_chars hq HA.out
          have hd1 : ((Utf8.decode a1 p).1 : Int) = ((Road.bl a1)[p]'(by rw [Road.bl_len]; exact hq)).toNat := by rw [hd]
          have hd2 : (Utf8.decode a1 p).2 = 1 := by rw [hd]
          rw [hd2] at HB3 hnx
          by_cases hc : ((Utf8.decode a0 pos).1 : Int) = ((Utf8.decode a1 p).1 : Int)
          · have hcb : (((Utf8.decode a0 pos).1 : Int) == ((Utf8.decode a1 p).1 : Int)) = true := beq_iff_eq.mpr hc
            go_wp2
            go_ret
            exact ⟨⟨(pos : Int), rfl, by rw [Road.hasB_at hp hq HA.out (hc.trans hd1)]; exact decide_eq_true (by omega)⟩, HB3.out⟩
          · have hcb : (((Utf8.decode a0 pos).1 : Int) == ((Utf8.decode a1 p).1 : Int)) = false := beq_eq_false_iff_ne.mpr hc
            have hk5 := Go.Lib.iterAt_heap _ _ a1 p (p + (Utf8.decode a1 p).2) hkp
            rw [hd2] at hk5
            have hk6 := (Go.Lib.iterAt_other _ W0.heap.size w.heap.size a1 (p + (Utf8.decode a1 p).2) (by omega)).trans hko
            rw [hd2] at hk6
            go_wp2
            go_roundw
            case rel => exact ⟨p + 1, rfl, ⟨Road.CharsAt.next HC.out hq (by rw [← hd1]; exact hc)⟩, hk5, hk6, HB3⟩
            case measure => rw [Road.iter_pos _ _ _ _ hk5, Road.iter_pos _ _ _ _ hkp]; omega
        · have hnx : ∀ ty, (Instr.next (.pointer (some ⟨W0.heap.size, 0, none⟩)) true ty).run Tryd.prog _ = _ := fun ty => Go.Lib.run_next_end_at _ _ a1 p ty hkp hq
          go_wp2
          go_roundw
          case rel => exact ⟨_, rfl, ⟨Road.RunesAt.miss HR.out hp HA.out (Road.CharsAt.all HC.out hq)⟩, hko, HB⟩
          case measure => rw [Road.iter_pos _ _ _ _ hko, hkw]; have := HW.out; omega
    · have hnx : ∀ ty, (Instr.next (.pointer (some ⟨w.heap.size, 0, none⟩)) true ty).run Tryd.prog _ = _ := fun ty => Go.Lib.run_next_end_at _ _ a0 pos ty hk hp
      go_wp2
      go_ret
      exact ⟨⟨-1, rfl, by rw [Road.RunesAt.done HR.out hp]; rfl⟩, HB.out⟩
set_option maxHeartbeats 4000000 in
set_option maxRecDepth 100000 in
theorem server_zzContainsAny.calls (a0 a1 : ByteArray) (r : Bool) (w : World) (h : server_zzContainsAny.f a0 a1 = some r) :
    Calls Tryd.prog 66 #[.string a0, .string a1] w fun e w' => e = .returned (.bool r) ∧ Below w.heap.size w w' := by
  unfold server_zzContainsAny.f at h
  split at h
  · rename_i hc
    have hr := Option.some.inj h
    go_enter Tryd.func66, Tryd.ntmps66
    go_wp2_with fail
    refine (server_zzIndexAny.walk a0 a1 _ hc.1 hc.2.1 hc.2.2).mono ?_
    rintro e w' ⟨⟨i, rfl, hi⟩, hb⟩
    rw [hr] at hi
    go_wp2_with fail
    go_ret
    exact ⟨rfl, hb⟩
  · exact absurd h (by simp)


/-! ### server_isValidSubject: function 58 -/
def server_isValidSubject.f (a0 : ByteArray) (a1 : Bool) : Option Bool := if a1 = false ∧ a0.size ≤ 2147483647 then some (Road.sValidB (Road.bl a0)) else none
set_option maxHeartbeats 8000000 in
set_option maxRecDepth 100000 in
theorem server_isValidSubject.calls (a0 : ByteArray) (a1 : Bool) (r : Bool) (w : World) (h : server_isValidSubject.f a0 a1 = some r) :
    Calls Tryd.prog 58 #[.string a0, .bool a1] w fun e w' => e = .returned (.bool r) ∧ Below w.heap.size w w' := by
  unfold server_isValidSubject.f at h
  split at h
  · rename_i hc
    obtain ⟨rfl, hs⟩ := hc
    have hr := Option.some.inj h
    clear h
    have HB := Aside0.mk (Below.refl w.heap.size w)
    have HS := Aside0.mk hs
    clear hs
    by_cases c0 : a0.toList = ([] : List UInt8)
    · have c0b0 : (a0.toList == ([] : List UInt8)) = true := beq_iff_eq.mpr c0
      have HF : r = false := by
        rw [← hr, Road.sValidB, ← Road.toList_bl, c0]
        rfl
      subst HF
      go_enter Tryd.func58, Tryd.ntmps58
      go_wp2
      go_ret
      exact ⟨rfl, HB.out⟩
    · have c0b0 : (a0.toList == ([] : List UInt8)) = false := beq_eq_false_iff_ne.mpr c0
      clear c0
      go_enter Tryd.func58, Tryd.ntmps58
      obtain ⟨T, hT⟩ : ∃ T, T = Road.tokB a0 := ⟨_, rfl⟩
      have hz : server_zzSplit.f a0 ⟨#[46]⟩ = some T := by rw [hT]; exact if_pos ⟨rfl, HS.out⟩
      have HV := Aside0.mk (show Road.vf false T = r by rw [hT, Road.vf_valid]; exact hr)
      have HTS := Aside0.mk (show ∀ t ∈ T, t.size ≤ 2147483647 from fun t ht => Nat.le_trans (Road.tokB_size (by rw [← hT]; exact ht)) HS.out)
      have HTL := Aside0.mk (show T.length ≤ 2147483648 by rw [hT, Road.tokB_length]; have := Road.toks_length_le (Road.bl a0); have := Road.bl_len a0; have := HS.out; omega)
      clear hT hr
      go_wp2_with fail
      refine (server_zzSplit.calls a0 ⟨#[46]⟩ T _ hz).mono ?_
      rintro e w8 ⟨vT, rfl, ho0, hb⟩
      have HB2 := Aside0.mk hb
      have HO := Aside0.mk ho0
      clear HB hb ho0 hz
      have HB := HB2
      clear HB2
      obtain ⟨Ao, co, eo⟩ := Kd.R_slice HO.out
      subst eo
      go_wp2
      have HC := Aside0.mk (Kd.R_reads' HO.out).2.2
      clear HO
      go_loopw [7, 28] (fun v7 v28 w' => ∃ (sf : Bool) (i : Nat), v7 = .bool sf ∧ v28 = .int .i64 (i : Int) ∧ i ≤ T.length ∧ Aside0 (Road.vf sf (T.drop i) = r) ∧ Aside0 (Kd.C Kd.string w' Ao T.length T) ∧ Aside0 (Below w.heap.size w w')) (fun _ v28 _ => Road.leftOf T.length v28)
      case atStart => exact ⟨false, 0, rfl, rfl, by omega, HV, HC, HB⟩
      case round =>
        clear HC HB HV
        obtain ⟨sf, i, rfl, rfl, hi, HV, HC, HB⟩ := hrel
        by_cases hlt : i < T.length
        · obtain ⟨u, hu⟩ : ∃ u, u = rdOf ByteArray.empty T (i : Int) := ⟨_, rfl⟩
          have hui : u = T[i] := by rw [hu, Road.rdOf_nat _ _ _ hlt]
          have HV2 := HV.out
          rw [List.drop_eq_getElem_cons hlt, ← hui, Road.vf] at HV2
          have hus := HTS.out u (by rw [hui]; exact List.getElem_mem hlt)
          have hw : wrap64 ((i : Int) + 1) = ((i + 1 : Nat) : Int) := by have := HTL.out; unfold wrap64; omega
          have ci : decide ((i : Int) < (T.length : Int)) = true := decide_eq_true (by omega)
          have p107 : 0 ≤ (i : Int) := by omega
          have q107 : (i : Int) < (T.length : Int) := by omega
          obtain ⟨ad107, e107, hx107⟩ := Kd.at_string HC.out (i : Int) p107 q107
          cases e107
          rw [← hu, Int.toNat_natCast] at hx107
          replace p107 := eq_true p107
          replace q107 := eq_true q107
          clear hu hui HV
          by_cases c1 : u.size = 0
          · rw [if_pos (Or.inl c1)] at HV2
            subst HV2
            have c1b : (((u.size : Nat) : Int) == 0) = true := by rw [c1]; rfl
            go_wp2
            go_ret
            exact ⟨rfl, HB.out⟩
          · have c1b : (((u.size : Nat) : Int) == 0) = false := beq_eq_false_iff_ne.mpr (by omega)
            cases sf with
            | true =>
              rw [if_pos (Or.inr rfl)] at HV2
              subst HV2
              go_wp2
              go_ret
              exact ⟨rfl, HB.out⟩
            | false =>
              rw [if_neg (by simp [c1])] at HV2
              by_cases c2 : 1 < u.size
              · rw [if_pos c2] at HV2
                have c2b : decide ((1 : Int) < (u.size : Int)) = true := decide_eq_true (by omega)
                have hz : server_zzContainsAny.f u Road.wsB = some (Road.hasB (Road.bl u) (Road.bl Road.wsB)) := if_pos ⟨Road.ws_ascii, hus, by decide⟩
                generalize Road.hasB (Road.bl u) (Road.bl Road.wsB) = c3 at hz HV2
                go_wp2_with fail
                refine (server_zzContainsAny.calls u Road.wsB _ _ hz).mono ?_
                rintro e w9 ⟨rfl, hb9⟩
                have HC2 := Aside0.mk (Kd.C_below HC.out hb9)
                have HB2 := Aside0.mk (below_step HB.out hb9)
                clear HB hx107 hb9
                have HB := HB2
                clear HC HB2
                have HC := HC2
                clear HC2
                go_wp2
                all_goals (simp only [*, if_true, if_false, Bool.false_eq_true] at HV2)
                all_goals first
                  | (subst HV2; go_ret; exact ⟨rfl, HB.out⟩)
                  | exact ⟨⟨_, i + 1, rfl, by rw [hw], by omega, ⟨HV2⟩, HC, HB⟩, by rw [hw]; exact Road.leftOf_lt hlt⟩
              · rw [if_neg c2] at HV2
                have c2b : decide ((1 : Int) < (u.size : Int)) = false := decide_eq_false (by omega)
                have p2 := eq_true (show 0 ≤ (0 : Int) by omega)
                have q2 := eq_true (show (0 : Int) < (u.size : Int) by omega)
                have hxb : ∀ h : 0 < u.size, ((u[0]'h).toNat : Int) = bt u 0 := fun h => bt_at u 0 h
                have q3 := eq_true (show 0 < u.size by omega)
                have HV3 : (bif bt u 0 == 62 then Road.vf true (T.drop (i + 1)) else bif bt u 0 == 32 then false else bif bt u 0 == 9 then false else bif bt u 0 == 10 then false else bif bt u 0 == 13 then false else bif bt u 0 == 12 then false else Road.vf false (T.drop (i + 1))) = r := by
                  rw [← HV2]
                  by_cases c62 : bt u 0 = 62
                  · simp [c62]
                  · rw [if_neg c62, beq_eq_false_iff_ne.mpr c62, cond_false, Road.blankI]
                    clear c62
                    cases h1 : bt u 0 == 32 <;> cases h2 : bt u 0 == 9 <;> cases h3 : bt u 0 == 10 <;> cases h4 : bt u 0 == 13 <;> cases h5 : bt u 0 == 12 <;> rfl
                clear HV2
                go_wp2
                all_goals (simp only [*, cond_true, cond_false] at HV3)
                all_goals first
                  | (subst HV3; go_ret; exact ⟨rfl, HB.out⟩)
                  | exact ⟨⟨_, i + 1, rfl, by rw [hw], by omega, ⟨HV3⟩, HC, HB⟩, by rw [hw]; exact Road.leftOf_lt hlt⟩
        · have hv := HV.out
          rw [List.drop_eq_nil_of_le (by omega), Road.vf] at hv
          subst hv
          have ci : decide ((i : Int) < (T.length : Int)) = false := decide_eq_false (by omega)
          go_wp2
          go_ret
          exact ⟨rfl, HB.out⟩
  · exact absurd h (by simp)


/-! ### server_IsValidSubject: function 49 -/
def server_IsValidSubject.f (a0 : ByteArray) : Option (Bool) := (server_isValidSubject.f a0 false).bind fun t127 => (some t127)
set_option maxHeartbeats 8000000 in
set_option maxRecDepth 100000 in
theorem server_IsValidSubject.calls (a0 : ByteArray) (r : Bool) (w : World) (h : server_IsValidSubject.f a0 = some r) :
    Calls Tryd.prog 49 #[.string a0] w fun e w' => e = .returned (.bool r) ∧ Below w.heap.size w w' := by
  have HB := Aside0.mk (Below.refl w.heap.size w)
  have H : ((server_isValidSubject.f a0 false).bind fun t127 => (some t127)) = some r := h
  clear h
  replace H := Option.bind_eq_some_iff.mp H
  obtain ⟨t127, A20, H⟩ := H
  replace H : (some t127) = some r := H
  have A2 := Aside0.mk A20
  clear A20
  obtain rfl := Option.some.inj H
  go_enter Tryd.func49, Tryd.ntmps49
  go_wp2_with (first | ((with_reducible refine gate_callee (f := 58) rfl ?_); refine goesL_ (some 4) rfl rfl Tryd.func58 (by kernel_rfl) rfl #[.string a0, .bool false] rfl (by (try simp only [List.map_toArray, List.map_cons, List.map_nil]); first | done | rfl | (simp only [List.length_drop, List.length_take]; rfl)) ?_; (with_reducible refine (server_isValidSubject.calls a0 false t127 _ A2.out).mono ?_); rintro e w3 ⟨rfl, hb⟩; refine ⟨_, rfl, ?_⟩; have n0_ := Aside0.mk (below_step (by repeat (first | (with_reducible first | exact HB.out | apply below_alloc | apply pw_below_drewN | apply below_drew1) | exact HB.out)) hb); clear HB; have HB := n0_; clear n0_; (try clear hb); (try clear hb2); (try clear hk); (try clear hi)))
  go_ret
  exact ⟨by first | rfl | (simp [errW_none, errW_some] <;> rfl) | (simp [*, errW_none, errW_some] <;> rfl) | (simp [errW_none, errW_some]; generalize ByteArray.toList _ = l_; cases l_ <;> rfl), by repeat (first | (with_reducible first | exact HB.out | apply below_alloc | apply pw_below_drewN | apply below_drew1) | exact HB.out)⟩

end Go.Proofs.YtmfblbjklmgncaaDoor.PFnTopicSubject
