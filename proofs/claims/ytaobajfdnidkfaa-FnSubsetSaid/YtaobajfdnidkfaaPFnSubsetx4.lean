-- Written by hprint.py (this session's program, over the kit's printing program, with this session's own contracts in it). Not trusted: Lean checks it.
import Derived.Test.YtaobajfdnidkfaaPFnSubsetx0
import Derived.Test.YtaobajfdnidkfaaPFnSubsetx1
import Derived.Test.YtaobajfdnidkfaaPFnSubsetx2
import Derived.Test.YtaobajfdnidkfaaPFnSubsetx3
namespace Go.Proofs.Ytaobajfdnidkfaa.PFnSubset
open Go.RowKit Go.Proofs.YtaobajfdnidkfaaW.PrintWords Go.Proofs.YtaobajfdnidkfaaW.PrintLast Go.Proofs.YtaobajfdnidkfaaW.PrintMore
attribute [local go_sem] max2_int min2_int max_two min_two max_three min_three max_four min_four   -- for this text's walks alone
set_option linter.unusedVariables false
set_option linter.unusedSimpArgs false

/-! ### server_isSubsetMatch: function 66 -/
def server_isSubsetMatch.f (k : Nat) (l0 : List ByteArray) (a1 : ByteArray) : Option Bool := if a1.size ≤ 2147483647 then server_isSubsetMatchTokenized.f k l0 (Road.tokB a1) else none
theorem server_isSubsetMatch.mono : ∀ a0 a1 k, LeO (server_isSubsetMatch.f k a0 a1) (server_isSubsetMatch.f (k + 1) a0 a1) := by
  intro a0 a1 k
  unfold server_isSubsetMatch.f
  exact LeO.ite (server_isSubsetMatchTokenized.mono _ _ _) (LeO.none _)
theorem zero_strs32 : ∀ w : World, (Instr.build 47 #[]).run Try.prog w = .ok (.agg Road.strs32) w := fun w => by kernel_rfl
theorem new_strs32 : ∀ w : World, (Instr.alloc 47 true (.tuple #[])).run Try.prog w = .ok (.pointer (some ⟨w.heap.size, 0, none⟩)) (w.alloc (.cells Road.strs32 47)) := fun w => by kernel_rfl
theorem info_strs32 : (Try.prog.info? 47).map (·.size) = some Road.strs32.size := by kernel_rfl
set_option maxHeartbeats 8000000 in
set_option maxRecDepth 100000 in
theorem server_isSubsetMatch.calls (k : Nat) (A0 : Option Addr) (c0 : Nat) (l0 : List ByteArray) (a1 : ByteArray) (r : Bool) (w : World) (hr0 : Kd.C Kd.string w A0 l0.length l0) (hc0 : l0.length ≤ c0) (h : server_isSubsetMatch.f k l0 a1 = some r) :
    Calls Try.prog 66 #[.slice A0 l0.length c0, .string a1] w fun e w' => e = .returned (.bool r) ∧ Below w.heap.size w w' := by
  unfold server_isSubsetMatch.f at h
  by_cases hs : a1.size ≤ 2147483647
  · rw [if_pos hs] at h
    have HS := Aside0.mk hs
    have HH := Aside0.mk h
    have HC0 := Aside0.mk hc0
    have HR0 := Aside0.mk hr0
    clear h hs hc0 hr0
    go_enter Try.func66, Try.ntmps66
    go_wp2_with (refine Road.wpList_zeroVar 47 7 5 Road.strs32 rfl rfl rfl rfl rfl rfl rfl rfl rfl zero_strs32 new_strs32 info_strs32 Road.strs32_one rfl rfl (by decide) ?_)
    refine (server_tokenizeSubjectIntoSlice.any _ a1 w _ HS.out (below_alloc (Below.refl _ _) _) (Road.strs32_row w w.heap.size 47 (Nat.le_refl _))).mono ?_
    rintro e w1 ⟨v, rfl, ho, hb⟩
    obtain ⟨A, c, rfl, h1, h2⟩ := ho.reads
    have HB := Aside0.mk hb
    have H1 := Aside0.mk h1
    have H2 := Aside0.mk h2
    clear hb h1 h2 ho
    go_wp2_with fail
    refine (server_isSubsetMatchTokenized.calls k A0 c0 l0 A c (Road.tokB a1) r _ (Kd.C_below HR0.out HB.out) HC0.out H2.out H1.out HH.out).mono ?_
    rintro e w2 ⟨rfl, hb2⟩
    obtain ⟨⟨nd, rfl⟩⟩ := hb2
    go_wp2_with fail
    go_ret
    exact ⟨rfl, pw_below_drewN HB.out _⟩
  · rw [if_neg hs] at h
    exact absurd h (by simp)


/-! ### server_subjectIsSubsetMatch: function 55 -/
def server_subjectIsSubsetMatch.f (k : Nat) (a0 a1 : ByteArray) : Option Bool := if a0.size ≤ 2147483647 then server_isSubsetMatch.f k (Road.tokB a0) a1 else none
theorem server_subjectIsSubsetMatch.mono : ∀ a0 a1 k, LeO (server_subjectIsSubsetMatch.f k a0 a1) (server_subjectIsSubsetMatch.f (k + 1) a0 a1) := by
  intro a0 a1 k
  unfold server_subjectIsSubsetMatch.f
  exact LeO.ite (server_isSubsetMatch.mono _ _ _) (LeO.none _)
set_option maxHeartbeats 8000000 in
set_option maxRecDepth 100000 in
theorem server_subjectIsSubsetMatch.calls (k : Nat) (a0 a1 : ByteArray) (r : Bool) (w : World) (h : server_subjectIsSubsetMatch.f k a0 a1 = some r) :
    Calls Try.prog 55 #[.string a0, .string a1] w fun e w' => e = .returned (.bool r) ∧ Below w.heap.size w w' := by
  unfold server_subjectIsSubsetMatch.f at h
  by_cases hs : a0.size ≤ 2147483647
  · rw [if_pos hs] at h
    have HS := Aside0.mk hs
    have HH := Aside0.mk h
    clear h hs
    go_enter Try.func55, Try.ntmps55
    go_wp2_with (refine Road.wpList_zeroVar 47 7 5 Road.strs32 rfl rfl rfl rfl rfl rfl rfl rfl rfl zero_strs32 new_strs32 info_strs32 Road.strs32_one rfl rfl (by decide) ?_)
    refine (server_tokenizeSubjectIntoSlice.any _ a0 w _ HS.out (below_alloc (Below.refl _ _) _) (Road.strs32_row w w.heap.size 47 (Nat.le_refl _))).mono ?_
    rintro e w1 ⟨v, rfl, ho, hb⟩
    obtain ⟨A, c, rfl, h1, h2⟩ := ho.reads
    have HB := Aside0.mk hb
    have H1 := Aside0.mk h1
    have H2 := Aside0.mk h2
    clear hb h1 h2 ho
    go_wp2_with fail
    refine (server_isSubsetMatch.calls k A c (Road.tokB a0) a1 r _ H2.out H1.out HH.out).mono ?_
    rintro e w2 ⟨rfl, hb2⟩
    have HB2 := Aside0.mk hb2
    clear hb2
    go_wp2_with fail
    go_ret
    exact ⟨rfl, below_step HB.out HB2.out⟩
  · rw [if_neg hs] at h
    exact absurd h (by simp)


/-! ### server_SubjectIsSubset: function 39 -/
def server_SubjectIsSubset.f (k : Nat) (a0 : ByteArray) (a1 : ByteArray) : Option (Bool) := (server_subjectIsSubsetMatch.f k a0 a1).bind fun t128 => (some t128)
theorem server_SubjectIsSubset.mono : ∀ a0 a1 k, LeO (server_SubjectIsSubset.f k a0 a1) (server_SubjectIsSubset.f (k + 1) a0 a1) := by
  intro a0 a1 k
  unfold server_SubjectIsSubset.f
  repeat' first
      | (with_reducible exact server_subjectIsSubsetMatch.mono _ _ _)
      | (with_reducible exact LeO.refl _)
      | (with_reducible exact LeO.none _)
      | (with_reducible refine LeO.ite ?_ ?_)
      | (with_reducible refine LeO.bind ?_ (fun _ => ?_))
      | exact server_subjectIsSubsetMatch.mono _ _ _
      | exact LeO.none _
      | refine LeO.ite ?_ ?_
      | refine LeO.bind ?_ (fun _ => ?_)
set_option maxHeartbeats 8000000 in
set_option maxRecDepth 100000 in
theorem server_SubjectIsSubset.calls (k : Nat) (a0 : ByteArray) (a1 : ByteArray) (r : Bool) (w : World) (h : server_SubjectIsSubset.f k a0 a1 = some r) :
    Calls Try.prog 39 #[.string a0, .string a1] w fun e w' => e = .returned (.bool r) ∧ Below w.heap.size w w' := by
  have HB := Aside0.mk (Below.refl w.heap.size w)
  have H : ((server_subjectIsSubsetMatch.f k a0 a1).bind fun t128 => (some t128)) = some r := h
  clear h
  replace H := Option.bind_eq_some_iff.mp H
  obtain ⟨t128, A30, H⟩ := H
  replace H : (some t128) = some r := H
  have A3 := Aside0.mk A30
  clear A30
  obtain rfl := Option.some.inj H
  go_enter Try.func39, Try.ntmps39
  go_wp2_with (first | ((with_reducible refine gate_callee (f := 55) rfl ?_); refine goesL_ (some 7) rfl rfl Try.func55 (by kernel_rfl) rfl #[.string a0, .string a1] rfl (by (try simp only [List.map_toArray, List.map_cons, List.map_nil]); first | done | rfl | (simp only [List.length_drop, List.length_take]; rfl)) ?_; (with_reducible refine (server_subjectIsSubsetMatch.calls k a0 a1 t128 _ A3.out).mono ?_); rintro e w4 ⟨rfl, hb⟩; refine ⟨_, rfl, ?_⟩; have n0_ := Aside0.mk (below_step (by repeat (first | (with_reducible first | exact HB.out | apply below_alloc | apply pw_below_drewN | apply below_drew1) | exact HB.out)) hb); clear HB; have HB := n0_; clear n0_; (try clear hb); (try clear hb2); (try clear hk); (try clear hi)))
  go_ret
  exact ⟨by first | rfl | (simp [errW_none, errW_some] <;> rfl) | (simp [*, errW_none, errW_some] <;> rfl), by repeat (first | (with_reducible first | exact HB.out | apply below_alloc | apply pw_below_drewN | apply below_drew1) | exact HB.out)⟩

/-! ### impl_Subset: function 18 -/
def impl_Subset.f (k : Nat) (a0 : ByteArray) (a1 : ByteArray) : Option (Bool) := (server_SubjectIsSubset.f k a0 a1).bind fun t129 => (some t129)
theorem impl_Subset.mono : ∀ a0 a1 k, LeO (impl_Subset.f k a0 a1) (impl_Subset.f (k + 1) a0 a1) := by
  intro a0 a1 k
  unfold impl_Subset.f
  repeat' first
      | (with_reducible exact server_SubjectIsSubset.mono _ _ _)
      | (with_reducible exact LeO.refl _)
      | (with_reducible exact LeO.none _)
      | (with_reducible refine LeO.ite ?_ ?_)
      | (with_reducible refine LeO.bind ?_ (fun _ => ?_))
      | exact server_SubjectIsSubset.mono _ _ _
      | exact LeO.none _
      | refine LeO.ite ?_ ?_
      | refine LeO.bind ?_ (fun _ => ?_)
set_option maxHeartbeats 8000000 in
set_option maxRecDepth 100000 in
theorem impl_Subset.calls (k : Nat) (a0 : ByteArray) (a1 : ByteArray) (r : Bool) (w : World) (h : impl_Subset.f k a0 a1 = some r) :
    Calls Try.prog 18 #[.string a0, .string a1] w fun e w' => e = .returned (.bool r) ∧ Below w.heap.size w w' := by
  have HB := Aside0.mk (Below.refl w.heap.size w)
  have H : ((server_SubjectIsSubset.f k a0 a1).bind fun t129 => (some t129)) = some r := h
  clear h
  replace H := Option.bind_eq_some_iff.mp H
  obtain ⟨t129, A30, H⟩ := H
  replace H : (some t129) = some r := H
  have A3 := Aside0.mk A30
  clear A30
  obtain rfl := Option.some.inj H
  go_enter Try.func18, Try.ntmps18
  go_wp2_with (first | ((with_reducible refine gate_callee (f := 39) rfl ?_); refine goesL_ (some 7) rfl rfl Try.func39 (by kernel_rfl) rfl #[.string a0, .string a1] rfl (by (try simp only [List.map_toArray, List.map_cons, List.map_nil]); first | done | rfl | (simp only [List.length_drop, List.length_take]; rfl)) ?_; (with_reducible refine (server_SubjectIsSubset.calls k a0 a1 t129 _ A3.out).mono ?_); rintro e w4 ⟨rfl, hb⟩; refine ⟨_, rfl, ?_⟩; have n0_ := Aside0.mk (below_step (by repeat (first | (with_reducible first | exact HB.out | apply below_alloc | apply pw_below_drewN | apply below_drew1) | exact HB.out)) hb); clear HB; have HB := n0_; clear n0_; (try clear hb); (try clear hb2); (try clear hk); (try clear hi)))
  go_ret
  exact ⟨by first | rfl | (simp [errW_none, errW_some] <;> rfl) | (simp [*, errW_none, errW_some] <;> rfl), by repeat (first | (with_reducible first | exact HB.out | apply below_alloc | apply pw_below_drewN | apply below_drew1) | exact HB.out)⟩

/-! ### spec_subset: function 40 -/
def spec_subset.l0 : Nat → List ByteArray → List ByteArray → Int → Option (Bool)
  | 0, _, _, _ => none
  | k + 1, x0, x1, x5 => if x5 < (x1.length : Int) then (if x5 ≥ (x0.length : Int) then (some false) else (if 0 ≤ x5 then (if (rdOf ByteArray.empty x1 x5).toList = ([62] : List UInt8) then (some true) else (if x5 < (x0.length : Int) then (if (rdOf ByteArray.empty x0 x5).toList = ([62] : List UInt8) then (some false) else (if (rdOf ByteArray.empty x1 x5).toList = ([42] : List UInt8) then (spec_subset.l0 k x0 x1 (wrap64 (x5 + 1))) else (if (rdOf ByteArray.empty x0 x5).toList = (rdOf ByteArray.empty x1 x5).toList then (spec_subset.l0 k x0 x1 (wrap64 (x5 + 1))) else (some false)))) else (none))) else (none))) else (some ((x0.length : Int) == (x1.length : Int)))
def spec_subset.f (k : Nat) (l0 : List ByteArray) (l1 : List ByteArray) : Option (Bool) := spec_subset.l0 k l0 l1 0
theorem spec_subset.mono_l : ∀ k, (∀ y0 y1 y2, LeO (spec_subset.l0 k y0 y1 y2) (spec_subset.l0 (k + 1) y0 y1 y2))
  | 0 => fun _ _ _ r h => by simp [spec_subset.l0] at h
  | k + 1 => by
    have ih0 := spec_subset.mono_l k
    · intro y0 y1 y2
      unfold spec_subset.l0
      repeat' first
      | (with_reducible exact ih0 _ _ _)
      | (with_reducible exact LeO.refl _)
      | (with_reducible exact LeO.none _)
      | (with_reducible refine LeO.ite ?_ ?_)
      | (with_reducible refine LeO.bind ?_ (fun _ => ?_))
      | exact ih0 _ _ _
      | exact LeO.none _
      | refine LeO.ite ?_ ?_
      | refine LeO.bind ?_ (fun _ => ?_)
theorem spec_subset.mono : ∀ a0 a1 k, LeO (spec_subset.f k a0 a1) (spec_subset.f (k + 1) a0 a1) := by
  intro a0 a1 k
  have ih0 := spec_subset.mono_l k
  unfold spec_subset.f
  repeat' first
      | (with_reducible exact ih0 _ _ _)
      | (with_reducible exact LeO.refl _)
      | (with_reducible exact LeO.none _)
      | (with_reducible refine LeO.ite ?_ ?_)
      | (with_reducible refine LeO.bind ?_ (fun _ => ?_))
      | exact ih0 _ _ _
      | exact LeO.none _
      | refine LeO.ite ?_ ?_
      | refine LeO.bind ?_ (fun _ => ?_)
set_option maxHeartbeats 8000000 in
set_option maxRecDepth 100000 in
theorem spec_subset.calls (k : Nat) (A0 : Option Addr) (c0 : Nat) (l0 : List ByteArray) (A1 : Option Addr) (c1 : Nat) (l1 : List ByteArray) (r : Bool) (w : World) (hr0 : Kd.C Kd.string w A0 l0.length l0) (hc0 : l0.length ≤ c0) (hr1 : Kd.C Kd.string w A1 l1.length l1) (hc1 : l1.length ≤ c1) (h : spec_subset.f k l0 l1 = some r) :
    Calls Try.prog 40 #[.slice A0 l0.length c0, .slice A1 l1.length c1] w fun e w' => e = .returned (.bool r) ∧ Drawn0 w w' := by
  have HR0 := Aside0.mk hr0
  have HC0 := Aside0.mk hc0
  clear hr0 hc0
  have HR1 := Aside0.mk hr1
  have HC1 := Aside0.mk hc1
  clear hr1 hc1
  have H : (spec_subset.l0 k l0 l1 0) = some r := h
  clear h
  have H' := Aside0.mk H
  clear H
  go_enter Try.func40, Try.ntmps40
  go_wp2
  repeat (go_quiet (fail); try go_wp2)
  go_loopg [5] k (fun kq v5 w' => ∃ (x5_1 : Int), v5 = .int .i64 x5_1 ∧ Aside0 (spec_subset.l0 kq l0 l1 x5_1 = some r) ∧ Aside0 (kq ≤ k) ∧ Drawn0 w w')
  case atStart => exact ⟨(0), (by first | rfl | (simp; done) | (simp [*]; done)), H', ⟨Nat.le_refl _⟩, by repeat (first | exact Drawn0.refl _ | apply Drawn0.step)⟩
  case round =>
    clear H'
    try clear c1
    try clear p2
    obtain ⟨x5_1, rfl, HA, HK1, ⟨m1, rfl⟩⟩ := hrel
    cases gk with
    | zero => exact absurd HA.out (by simp [spec_subset.l0])
    | succ k1 =>
      have H := HA.out
      clear HA
      simp only [spec_subset.l0] at H
      by_cases c3 : x5_1 < (l1.length : Int)
      · rw [if_pos c3] at H
        have c3b0 : decide (x5_1 < (l1.length : Int)) = true := decide_eq_true c3
        clear c3
        by_cases c4 : x5_1 ≥ (l0.length : Int)
        · rw [if_pos c4] at H
          have c4b0 : decide ((l0.length : Int) ≤ x5_1) = true := decide_eq_true c4
          clear c4
          obtain rfl := Option.some.inj H
          go_wp2
          repeat (go_quiet (fail); try go_wp2)
          go_ret
          exact ⟨by first | rfl | (simp; done) | (simp [*]; done), by repeat (first | exact Drawn0.refl _ | apply Drawn0.step)⟩
        · rw [if_neg c4] at H
          have c4b0 : decide ((l0.length : Int) ≤ x5_1) = false := decide_eq_false c4
          clear c4
          by_cases c5 : 0 ≤ x5_1
          · rw [if_pos c5] at H
            have c5b0 : decide (0 ≤ x5_1) = true := decide_eq_true c5
            clear c5
            by_cases c6 : (rdOf ByteArray.empty l1 x5_1).toList = ([62] : List UInt8)
            · rw [if_pos c6] at H
              have c6b0 : ((rdOf ByteArray.empty l1 x5_1).toList == ([62] : List UInt8)) = true := beq_iff_eq.mpr c6
              have c6b1 : ((rdOf ByteArray.empty l1 x5_1).toList != ([62] : List UInt8)) = false := bne_eq_false_iff_eq.mpr c6
              clear c6
              obtain rfl := Option.some.inj H
              have p130 : 0 ≤ (x5_1 : Int) := of_decide_eq_true (by first | (with_reducible assumption) | assumption)
              have q130 : x5_1 < (l1.length : Int) := of_decide_eq_true (by first | (with_reducible assumption) | assumption)
              obtain ⟨ad130, e130, hx130_0⟩ := Kd.at_string HR1.out x5_1 p130 q130
              cases e130
              replace p130 := eq_true p130
              replace q130 := eq_true q130
              go_wp2
              repeat (go_quiet (fail); try go_wp2)
              go_ret
              exact ⟨by first | rfl | (simp; done) | (simp [*]; done), by repeat (first | exact Drawn0.refl _ | apply Drawn0.step)⟩
            · rw [if_neg c6] at H
              have c6b0 : ((rdOf ByteArray.empty l1 x5_1).toList == ([62] : List UInt8)) = false := beq_eq_false_iff_ne.mpr c6
              have c6b1 : ((rdOf ByteArray.empty l1 x5_1).toList != ([62] : List UInt8)) = true := bne_iff_ne.mpr c6
              by_cases c7 : x5_1 < (l0.length : Int)
              · rw [if_pos c7] at H
                have c7b0 : decide (x5_1 < (l0.length : Int)) = true := decide_eq_true c7
                clear c7
                by_cases c8 : (rdOf ByteArray.empty l0 x5_1).toList = ([62] : List UInt8)
                · rw [if_pos c8] at H
                  have c8b0 : ((rdOf ByteArray.empty l0 x5_1).toList == ([62] : List UInt8)) = true := beq_iff_eq.mpr c8
                  have c8b1 : ((rdOf ByteArray.empty l0 x5_1).toList != ([62] : List UInt8)) = false := bne_eq_false_iff_eq.mpr c8
                  clear c8
                  obtain rfl := Option.some.inj H
                  have p130 : 0 ≤ (x5_1 : Int) := of_decide_eq_true (by first | (with_reducible assumption) | assumption)
                  have q130 : x5_1 < (l1.length : Int) := of_decide_eq_true (by first | (with_reducible assumption) | assumption)
                  obtain ⟨ad130, e130, hx130_0⟩ := Kd.at_string HR1.out x5_1 p130 q130
                  cases e130
                  replace p130 := eq_true p130
                  replace q130 := eq_true q130
                  have p131 : 0 ≤ (x5_1 : Int) := of_decide_eq_true (by first | (with_reducible assumption) | assumption)
                  have q131 : x5_1 < (l0.length : Int) := of_decide_eq_true (by first | (with_reducible assumption) | assumption)
                  obtain ⟨ad131, e131, hx131_0⟩ := Kd.at_string HR0.out x5_1 p131 q131
                  cases e131
                  replace p131 := eq_true p131
                  replace q131 := eq_true q131
                  go_wp2
                  repeat (go_quiet (fail); try go_wp2)
                  go_ret
                  exact ⟨by first | rfl | (simp; done) | (simp [*]; done), by repeat (first | exact Drawn0.refl _ | apply Drawn0.step)⟩
                · rw [if_neg c8] at H
                  have c8b0 : ((rdOf ByteArray.empty l0 x5_1).toList == ([62] : List UInt8)) = false := beq_eq_false_iff_ne.mpr c8
                  have c8b1 : ((rdOf ByteArray.empty l0 x5_1).toList != ([62] : List UInt8)) = true := bne_iff_ne.mpr c8
                  by_cases c9 : (rdOf ByteArray.empty l1 x5_1).toList = ([42] : List UInt8)
                  · rw [if_pos c9] at H
                    have c9b0 : ((rdOf ByteArray.empty l1 x5_1).toList == ([42] : List UInt8)) = true := beq_iff_eq.mpr c9
                    have c9b1 : ((rdOf ByteArray.empty l1 x5_1).toList != ([42] : List UInt8)) = false := bne_eq_false_iff_eq.mpr c9
                    clear c9
                    have H' := Aside0.mk H
                    clear H
                    have p130 : 0 ≤ (x5_1 : Int) := of_decide_eq_true (by first | (with_reducible assumption) | assumption)
                    have q130 : x5_1 < (l1.length : Int) := of_decide_eq_true (by first | (with_reducible assumption) | assumption)
                    obtain ⟨ad130, e130, hx130_0⟩ := Kd.at_string HR1.out x5_1 p130 q130
                    cases e130
                    replace p130 := eq_true p130
                    replace q130 := eq_true q130
                    have p131 : 0 ≤ (x5_1 : Int) := of_decide_eq_true (by first | (with_reducible assumption) | assumption)
                    have q131 : x5_1 < (l0.length : Int) := of_decide_eq_true (by first | (with_reducible assumption) | assumption)
                    obtain ⟨ad131, e131, hx131_0⟩ := Kd.at_string HR0.out x5_1 p131 q131
                    cases e131
                    replace p131 := eq_true p131
                    replace q131 := eq_true q131
                    have p132 : 0 ≤ (x5_1 : Int) := of_decide_eq_true (by first | (with_reducible assumption) | assumption)
                    have q132 : x5_1 < (l1.length : Int) := of_decide_eq_true (by first | (with_reducible assumption) | assumption)
                    obtain ⟨ad132, e132, hx132_0⟩ := Kd.at_string HR1.out x5_1 p132 q132
                    obtain rfl : ad130 = ad132 := (by injection e132)
                    replace p132 := eq_true p132
                    replace q132 := eq_true q132
                    go_wp2
                    repeat (go_quiet (fail); try go_wp2)
                    go_roundg k1
                    case measure => have := HK1.out; omega
                    case rel => exact ⟨(wrap64 (x5_1 + 1)), (by first | rfl | (simp; done) | (simp [*]; done)), H', ⟨by have := HK1.out; omega⟩, by repeat (first | exact Drawn0.refl _ | apply Drawn0.step)⟩
                  · rw [if_neg c9] at H
                    have c9b0 : ((rdOf ByteArray.empty l1 x5_1).toList == ([42] : List UInt8)) = false := beq_eq_false_iff_ne.mpr c9
                    have c9b1 : ((rdOf ByteArray.empty l1 x5_1).toList != ([42] : List UInt8)) = true := bne_iff_ne.mpr c9
                    by_cases c10 : (rdOf ByteArray.empty l0 x5_1).toList = (rdOf ByteArray.empty l1 x5_1).toList
                    · rw [if_pos c10] at H
                      have c10b0 : ((rdOf ByteArray.empty l0 x5_1).toList == (rdOf ByteArray.empty l1 x5_1).toList) = true := beq_iff_eq.mpr c10
                      have c10b1 : ((rdOf ByteArray.empty l0 x5_1).toList != (rdOf ByteArray.empty l1 x5_1).toList) = false := bne_eq_false_iff_eq.mpr c10
                      clear c10
                      have H' := Aside0.mk H
                      clear H
                      have p130 : 0 ≤ (x5_1 : Int) := of_decide_eq_true (by first | (with_reducible assumption) | assumption)
                      have q130 : x5_1 < (l1.length : Int) := of_decide_eq_true (by first | (with_reducible assumption) | assumption)
                      obtain ⟨ad130, e130, hx130_0⟩ := Kd.at_string HR1.out x5_1 p130 q130
                      cases e130
                      replace p130 := eq_true p130
                      replace q130 := eq_true q130
                      have p131 : 0 ≤ (x5_1 : Int) := of_decide_eq_true (by first | (with_reducible assumption) | assumption)
                      have q131 : x5_1 < (l0.length : Int) := of_decide_eq_true (by first | (with_reducible assumption) | assumption)
                      obtain ⟨ad131, e131, hx131_0⟩ := Kd.at_string HR0.out x5_1 p131 q131
                      cases e131
                      replace p131 := eq_true p131
                      replace q131 := eq_true q131
                      have p132 : 0 ≤ (x5_1 : Int) := of_decide_eq_true (by first | (with_reducible assumption) | assumption)
                      have q132 : x5_1 < (l1.length : Int) := of_decide_eq_true (by first | (with_reducible assumption) | assumption)
                      obtain ⟨ad132, e132, hx132_0⟩ := Kd.at_string HR1.out x5_1 p132 q132
                      obtain rfl : ad130 = ad132 := (by injection e132)
                      replace p132 := eq_true p132
                      replace q132 := eq_true q132
                      have p133 : 0 ≤ (x5_1 : Int) := of_decide_eq_true (by first | (with_reducible assumption) | assumption)
                      have q133 : x5_1 < (l0.length : Int) := of_decide_eq_true (by first | (with_reducible assumption) | assumption)
                      obtain ⟨ad133, e133, hx133_0⟩ := Kd.at_string HR0.out x5_1 p133 q133
                      obtain rfl : ad131 = ad133 := (by injection e133)
                      replace p133 := eq_true p133
                      replace q133 := eq_true q133
                      have p134 : 0 ≤ (x5_1 : Int) := of_decide_eq_true (by first | (with_reducible assumption) | assumption)
                      have q134 : x5_1 < (l1.length : Int) := of_decide_eq_true (by first | (with_reducible assumption) | assumption)
                      obtain ⟨ad134, e134, hx134_0⟩ := Kd.at_string HR1.out x5_1 p134 q134
                      obtain rfl : ad130 = ad134 := (by injection e134)
                      replace p134 := eq_true p134
                      replace q134 := eq_true q134
                      go_wp2
                      repeat (go_quiet (fail); try go_wp2)
                      go_roundg k1
                      case measure => have := HK1.out; omega
                      case rel => exact ⟨(wrap64 (x5_1 + 1)), (by first | rfl | (simp; done) | (simp [*]; done)), H', ⟨by have := HK1.out; omega⟩, by repeat (first | exact Drawn0.refl _ | apply Drawn0.step)⟩
                    · rw [if_neg c10] at H
                      have c10b0 : ((rdOf ByteArray.empty l0 x5_1).toList == (rdOf ByteArray.empty l1 x5_1).toList) = false := beq_eq_false_iff_ne.mpr c10
                      have c10b1 : ((rdOf ByteArray.empty l0 x5_1).toList != (rdOf ByteArray.empty l1 x5_1).toList) = true := bne_iff_ne.mpr c10
                      obtain rfl := Option.some.inj H
                      have p130 : 0 ≤ (x5_1 : Int) := of_decide_eq_true (by first | (with_reducible assumption) | assumption)
                      have q130 : x5_1 < (l1.length : Int) := of_decide_eq_true (by first | (with_reducible assumption) | assumption)
                      obtain ⟨ad130, e130, hx130_0⟩ := Kd.at_string HR1.out x5_1 p130 q130
                      cases e130
                      replace p130 := eq_true p130
                      replace q130 := eq_true q130
                      have p131 : 0 ≤ (x5_1 : Int) := of_decide_eq_true (by first | (with_reducible assumption) | assumption)
                      have q131 : x5_1 < (l0.length : Int) := of_decide_eq_true (by first | (with_reducible assumption) | assumption)
                      obtain ⟨ad131, e131, hx131_0⟩ := Kd.at_string HR0.out x5_1 p131 q131
                      cases e131
                      replace p131 := eq_true p131
                      replace q131 := eq_true q131
                      have p132 : 0 ≤ (x5_1 : Int) := of_decide_eq_true (by first | (with_reducible assumption) | assumption)
                      have q132 : x5_1 < (l1.length : Int) := of_decide_eq_true (by first | (with_reducible assumption) | assumption)
                      obtain ⟨ad132, e132, hx132_0⟩ := Kd.at_string HR1.out x5_1 p132 q132
                      obtain rfl : ad130 = ad132 := (by injection e132)
                      replace p132 := eq_true p132
                      replace q132 := eq_true q132
                      have p133 : 0 ≤ (x5_1 : Int) := of_decide_eq_true (by first | (with_reducible assumption) | assumption)
                      have q133 : x5_1 < (l0.length : Int) := of_decide_eq_true (by first | (with_reducible assumption) | assumption)
                      obtain ⟨ad133, e133, hx133_0⟩ := Kd.at_string HR0.out x5_1 p133 q133
                      obtain rfl : ad131 = ad133 := (by injection e133)
                      replace p133 := eq_true p133
                      replace q133 := eq_true q133
                      have p134 : 0 ≤ (x5_1 : Int) := of_decide_eq_true (by first | (with_reducible assumption) | assumption)
                      have q134 : x5_1 < (l1.length : Int) := of_decide_eq_true (by first | (with_reducible assumption) | assumption)
                      obtain ⟨ad134, e134, hx134_0⟩ := Kd.at_string HR1.out x5_1 p134 q134
                      obtain rfl : ad130 = ad134 := (by injection e134)
                      replace p134 := eq_true p134
                      replace q134 := eq_true q134
                      go_wp2
                      repeat (go_quiet (fail); try go_wp2)
                      go_ret
                      exact ⟨by first | rfl | (simp; done) | (simp [*]; done), by repeat (first | exact Drawn0.refl _ | apply Drawn0.step)⟩
              · rw [if_neg c7] at H
                exact absurd H (by simp)
          · rw [if_neg c5] at H
            exact absurd H (by simp)
      · rw [if_neg c3] at H
        have c3b0 : decide (x5_1 < (l1.length : Int)) = false := decide_eq_false c3
        clear c3
        obtain rfl := Option.some.inj H
        go_wp2
        repeat (go_quiet (fail); try go_wp2)
        go_ret
        exact ⟨by first | rfl | (simp; done) | (simp [*]; done), by repeat (first | exact Drawn0.refl _ | apply Drawn0.step)⟩

/-! ### spec_Subset: function 19 -/
def spec_Subset.f (k : Nat) (a0 : ByteArray) (a1 : ByteArray) : Option (Bool) := (spec_Tokens.f k a0).bind fun t135 => ((spec_Tokens.f k a1).bind fun t138 => ((spec_subset.f k t135 t138).bind fun t141 => (some t141)))
theorem spec_Subset.mono : ∀ a0 a1 k, LeO (spec_Subset.f k a0 a1) (spec_Subset.f (k + 1) a0 a1) := by
  intro a0 a1 k
  unfold spec_Subset.f
  repeat' first
      | (with_reducible exact spec_Tokens.mono _ _)
      | (with_reducible exact spec_subset.mono _ _ _)
      | (with_reducible exact LeO.refl _)
      | (with_reducible exact LeO.none _)
      | (with_reducible refine LeO.ite ?_ ?_)
      | (with_reducible refine LeO.bind ?_ (fun _ => ?_))
      | exact spec_Tokens.mono _ _
      | exact spec_subset.mono _ _ _
      | exact LeO.none _
      | refine LeO.ite ?_ ?_
      | refine LeO.bind ?_ (fun _ => ?_)
set_option maxHeartbeats 8000000 in
set_option maxRecDepth 100000 in
theorem spec_Subset.calls (k : Nat) (a0 : ByteArray) (a1 : ByteArray) (r : Bool) (w : World) (h : spec_Subset.f k a0 a1 = some r) :
    Calls Try.prog 19 #[.string a0, .string a1] w fun e w' => e = .returned (.bool r) ∧ Below w.heap.size w w' := by
  have HB := Aside0.mk (Below.refl w.heap.size w)
  have H : ((spec_Tokens.f k a0).bind fun t135 => ((spec_Tokens.f k a1).bind fun t138 => ((spec_subset.f k t135 t138).bind fun t141 => (some t141)))) = some r := h
  clear h
  replace H := Option.bind_eq_some_iff.mp H
  obtain ⟨t135, A30, H⟩ := H
  replace H : ((spec_Tokens.f k a1).bind fun t138 => ((spec_subset.f k t135 t138).bind fun t141 => (some t141))) = some r := H
  have A3 := Aside0.mk A30
  clear A30
  replace H := Option.bind_eq_some_iff.mp H
  obtain ⟨t138, A40, H⟩ := H
  replace H : ((spec_subset.f k t135 t138).bind fun t141 => (some t141)) = some r := H
  have A4 := Aside0.mk A40
  clear A40
  replace H := Option.bind_eq_some_iff.mp H
  obtain ⟨t141, A50, H⟩ := H
  replace H : (some t141) = some r := H
  have A5 := Aside0.mk A50
  clear A50
  obtain rfl := Option.some.inj H
  go_enter Try.func19, Try.ntmps19
  go_wp2_with (first | ((with_reducible refine gate_callee (f := 37) rfl ?_); refine goesL_ (some 6) rfl rfl Try.func37 (by kernel_rfl) rfl #[.string a0] rfl (by (try simp only [List.map_toArray, List.map_cons, List.map_nil]); first | done | rfl | (simp only [List.length_drop, List.length_take]; rfl)) ?_; (with_reducible refine (spec_Tokens.calls k a0 t135 _ A3.out).mono ?_); rintro e w6 ⟨v136, rfl, ho0, hb⟩; refine ⟨_, rfl, ?_⟩; have n0_ := Aside0.mk (Kd.R_lower ho0 (below_size (by repeat (first | (with_reducible first | exact HB.out | apply below_alloc | apply pw_below_drewN | apply below_drew1) | exact HB.out)))); have n1_ := Aside0.mk (below_step (by repeat (first | (with_reducible first | exact HB.out | apply below_alloc | apply pw_below_drewN | apply below_drew1) | exact HB.out)) hb); clear HB; have HO137 := n0_; have HB := n1_; clear n0_ n1_; (try clear hb); (try clear hb2); (try clear hk); (try clear hi); (try clear ho0)) | ((with_reducible refine gate_callee (f := 37) rfl ?_); refine goesL_ (some 8) rfl rfl Try.func37 (by kernel_rfl) rfl #[.string a1] rfl (by (try simp only [List.map_toArray, List.map_cons, List.map_nil]); first | done | rfl | (simp only [List.length_drop, List.length_take]; rfl)) ?_; (with_reducible refine (spec_Tokens.calls k a1 t138 _ A4.out).mono ?_); rintro e w7 ⟨v139, rfl, ho0, hb⟩; refine ⟨_, rfl, ?_⟩; have n0_ := Aside0.mk (Kd.R_elder' (by (with_reducible repeat (first | apply Kd.R_alloc | apply Kd.R_drewN | apply Kd.R_drew)); exact HO137.out) (Kd.R_base ho0) hb); have n1_ := Aside0.mk (Kd.R_lower (Kd.R_new' ho0 (Kd.R_lt (by (with_reducible repeat (first | apply Kd.R_alloc | apply Kd.R_drewN | apply Kd.R_drew)); exact HO137.out))) (below_size (by repeat (first | (with_reducible first | exact HB.out | apply below_alloc | apply pw_below_drewN | apply below_drew1) | exact HB.out)))); have n2_ := Aside0.mk (below_step (by repeat (first | (with_reducible first | exact HB.out | apply below_alloc | apply pw_below_drewN | apply below_drew1) | exact HB.out)) hb); clear HO137; clear HB; have HO137 := n0_; have HO140 := n1_; have HB := n2_; clear n0_ n1_ n2_; (try clear hb); (try clear hb2); (try clear hk); (try clear hi); (try clear ho0); obtain ⟨Ao8, co8, eo8⟩ := Kd.R_slice HO137.out; subst eo8; obtain ⟨Ao9, co9, eo9⟩ := Kd.R_slice HO140.out; subst eo9) | ((with_reducible refine gate_callee (f := 40) rfl ?_); refine goesL_ (some 9) rfl rfl Try.func40 (by kernel_rfl) rfl #[.slice Ao8 t135.length co8, .slice Ao9 t138.length co9] rfl (by (try simp only [List.map_toArray, List.map_cons, List.map_nil]); first | done | rfl | (simp only [List.length_drop, List.length_take]; rfl)) ?_; (with_reducible refine (spec_subset.calls k _ _ t135 _ _ t138 t141 _ ?side1 ?side2 ?side3 ?side4 A5.out).mono ?_); (case side1 => repeat (first | exact (Kd.R_reads' HO137.out).2.2 | (with_reducible refine Kd.C_alloc ?_ _) | (with_reducible refine Kd.C_drewN ?_ _) | (with_reducible refine Kd.C_drew ?_))); (case side2 => exact (Kd.R_reads' HO137.out).2.1); (case side3 => repeat (first | exact (Kd.R_reads' HO140.out).2.2 | (with_reducible refine Kd.C_alloc ?_ _) | (with_reducible refine Kd.C_drewN ?_ _) | (with_reducible refine Kd.C_drew ?_))); (case side4 => exact (Kd.R_reads' HO140.out).2.1); rintro e w' ⟨rfl, ⟨nd, rfl⟩⟩; refine ⟨_, rfl, ?_⟩))
  go_ret
  exact ⟨by first | rfl | (simp [errW_none, errW_some] <;> rfl) | (simp [*, errW_none, errW_some] <;> rfl), by repeat (first | (with_reducible first | exact HB.out | apply below_alloc | apply pw_below_drewN | apply below_drew1) | exact HB.out)⟩

/-! ### laws_FnSubset: function 5 -/
def laws_FnSubset.j0 : Nat → ByteArray → ByteArray → Bool → Option (Bool)
  | 0, _, _, _ => none
  | k + 1, x0, x1, x12 => if x12 = true then (some true) else ((laws_valid.f k x0).bind fun t142 => (if t142 = true then ((laws_valid.f k x1).bind fun t143 => (if t143 = true then ((impl_Subset.f k x0 x1).bind fun t144 => ((spec_Subset.f k x0 x1).bind fun t145 => (some (t144 == t145)))) else (some true))) else (some true)))
def laws_FnSubset.f (k : Nat) (a0 : ByteArray) (a1 : ByteArray) : Option (Bool) := if (a0.size : Int) > 2147483647 then (laws_FnSubset.j0 k a0 a1 true) else (laws_FnSubset.j0 k a0 a1 (decide ((a1.size : Int) > 2147483647)))
theorem laws_FnSubset.mono_l : ∀ k, (∀ y0 y1 y2, LeO (laws_FnSubset.j0 k y0 y1 y2) (laws_FnSubset.j0 (k + 1) y0 y1 y2))
  | 0 => fun _ _ _ r h => by simp [laws_FnSubset.j0] at h
  | k + 1 => by
    have ih0 := laws_FnSubset.mono_l k
    · intro y0 y1 y2
      unfold laws_FnSubset.j0
      repeat' first
      | (with_reducible exact ih0 _ _ _)
      | (with_reducible exact impl_Subset.mono _ _ _)
      | (with_reducible exact laws_valid.mono _ _)
      | (with_reducible exact spec_Subset.mono _ _ _)
      | (with_reducible exact LeO.refl _)
      | (with_reducible exact LeO.none _)
      | (with_reducible refine LeO.ite ?_ ?_)
      | (with_reducible refine LeO.bind ?_ (fun _ => ?_))
      | exact ih0 _ _ _
      | exact impl_Subset.mono _ _ _
      | exact laws_valid.mono _ _
      | exact spec_Subset.mono _ _ _
      | exact LeO.none _
      | refine LeO.ite ?_ ?_
      | refine LeO.bind ?_ (fun _ => ?_)
theorem laws_FnSubset.mono : ∀ a0 a1 k, LeO (laws_FnSubset.f k a0 a1) (laws_FnSubset.f (k + 1) a0 a1) := by
  intro a0 a1 k
  have ih0 := laws_FnSubset.mono_l k
  unfold laws_FnSubset.f
  repeat' first
      | (with_reducible exact ih0 _ _ _)
      | (with_reducible exact impl_Subset.mono _ _ _)
      | (with_reducible exact laws_valid.mono _ _)
      | (with_reducible exact spec_Subset.mono _ _ _)
      | (with_reducible exact LeO.refl _)
      | (with_reducible exact LeO.none _)
      | (with_reducible refine LeO.ite ?_ ?_)
      | (with_reducible refine LeO.bind ?_ (fun _ => ?_))
      | exact ih0 _ _ _
      | exact impl_Subset.mono _ _ _
      | exact laws_valid.mono _ _
      | exact spec_Subset.mono _ _ _
      | exact LeO.none _
      | refine LeO.ite ?_ ?_
      | refine LeO.bind ?_ (fun _ => ?_)
set_option maxHeartbeats 8000000 in
set_option maxRecDepth 100000 in
theorem laws_FnSubset.calls (k : Nat) (a0 : ByteArray) (a1 : ByteArray) (r : Bool) (w : World) (h : laws_FnSubset.f k a0 a1 = some r) :
    Calls Try.prog 5 #[.string a0, .string a1] w fun e w' => e = .returned (.bool r) ∧ Below w.heap.size w w' := by
  have HB := Aside0.mk (Below.refl w.heap.size w)
  have H : (if (a0.size : Int) > 2147483647 then (laws_FnSubset.j0 k a0 a1 true) else (laws_FnSubset.j0 k a0 a1 (decide ((a1.size : Int) > 2147483647)))) = some r := h
  clear h
  have HC3 := Aside0.mk H
  clear H
  go_enter Try.func5, Try.ntmps5
  go_upto_region 1 with (fail)
  go_cut [12] (fun v12 wc => ∃ (kq : Nat) (x12_2 : Bool), v12 = .bool x12_2 ∧ Aside0 (laws_FnSubset.j0 kq a0 a1 x12_2 = some r) ∧ Aside0 (kq ≤ k) ∧ Aside0 (Below w.heap.size w wc))
  case first =>
    have H := HC3.out
    clear HC3
    by_cases c4 : (a0.size : Int) > 2147483647
    · rw [if_pos c4] at H
      have c4b0 : decide (2147483647 < (a0.size : Int)) = true := decide_eq_true c4
      have c4b1 : decide (2147483647 < a0.size) = true := decide_eq_true (by omega)
      clear c4
      (first | rw [c4b0] | (simp only [i64_w, i32_w]; rw [c4b0]) | skip)
      have H' := Aside0.mk H
      clear H
      go_wp2
      go_meet
      case rel => exact ⟨_, (true), (by first | rfl | (simp; done) | (simp [*]; done)), H', ⟨by first | omega | exact Nat.le_refl _⟩, ⟨by repeat (first | (with_reducible first | exact HB.out | apply below_alloc | apply pw_below_drewN | apply below_drew1) | exact HB.out)⟩⟩
    · rw [if_neg c4] at H
      have c4b0 : decide (2147483647 < (a0.size : Int)) = false := decide_eq_false c4
      have c4b1 : decide (2147483647 < a0.size) = false := decide_eq_false (by omega)
      clear c4
      (first | rw [c4b0] | (simp only [i64_w, i32_w]; rw [c4b0]) | skip)
      have H' := Aside0.mk H
      clear H
      go_wp2
      go_meet
      case rel => exact ⟨_, (decide ((a1.size : Int) > 2147483647)), (by first | rfl | (simp; done) | (simp [*]; done)), H', ⟨by first | omega | exact Nat.le_refl _⟩, ⟨by repeat (first | (with_reducible first | exact HB.out | apply below_alloc | apply pw_below_drewN | apply below_drew1) | exact HB.out)⟩⟩
  case rest =>
    clear HC3
    try clear p2
    try clear c4
    try clear c4b0
    try clear c4b1
    obtain ⟨kq, x12_2, rfl, HA, HJ2, HB⟩ := hcut
    cases kq with
    | zero => exact absurd HA.out (by simp [laws_FnSubset.j0])
    | succ kj2 =>
      have H := HA.out
      clear HA
      simp only [laws_FnSubset.j0] at H
      by_cases c5 : x12_2 = true
      · subst c5
        have H1 : (some true) = some r := by rw [if_pos rfl] at H; exact H
        clear H
        have H := H1
        clear H1
        obtain rfl := Option.some.inj H
        go_wp2
        go_ret
        exact ⟨by first | rfl | (simp [errW_none, errW_some] <;> rfl) | (simp [*, errW_none, errW_some] <;> rfl), by repeat (first | (with_reducible first | exact HB.out | apply below_alloc | apply pw_below_drewN | apply below_drew1) | exact HB.out)⟩
      · replace c5 := Bool.eq_false_iff.mpr c5
        subst c5
        have H1 : ((laws_valid.f kj2 a0).bind fun t142 => (if t142 = true then ((laws_valid.f kj2 a1).bind fun t143 => (if t143 = true then ((impl_Subset.f kj2 a0 a1).bind fun t144 => ((spec_Subset.f kj2 a0 a1).bind fun t145 => (some (t144 == t145)))) else (some true))) else (some true))) = some r := by rw [if_neg (show ¬ (false = true) by decide)] at H; exact H
        clear H
        have H := H1
        clear H1
        replace H := Option.bind_eq_some_iff.mp H
        obtain ⟨t142, A60, H⟩ := H
        replace H : (if t142 = true then ((laws_valid.f kj2 a1).bind fun t143 => (if t143 = true then ((impl_Subset.f kj2 a0 a1).bind fun t144 => ((spec_Subset.f kj2 a0 a1).bind fun t145 => (some (t144 == t145)))) else (some true))) else (some true)) = some r := H
        have A6 := Aside0.mk A60
        clear A60
        by_cases c7 : t142 = true
        · subst c7
          have H1 : ((laws_valid.f kj2 a1).bind fun t143 => (if t143 = true then ((impl_Subset.f kj2 a0 a1).bind fun t144 => ((spec_Subset.f kj2 a0 a1).bind fun t145 => (some (t144 == t145)))) else (some true))) = some r := by rw [if_pos rfl] at H; exact H
          clear H
          have H := H1
          clear H1
          replace H := Option.bind_eq_some_iff.mp H
          obtain ⟨t143, A80, H⟩ := H
          replace H : (if t143 = true then ((impl_Subset.f kj2 a0 a1).bind fun t144 => ((spec_Subset.f kj2 a0 a1).bind fun t145 => (some (t144 == t145)))) else (some true)) = some r := H
          have A8 := Aside0.mk A80
          clear A80
          by_cases c9 : t143 = true
          · subst c9
            have H1 : ((impl_Subset.f kj2 a0 a1).bind fun t144 => ((spec_Subset.f kj2 a0 a1).bind fun t145 => (some (t144 == t145)))) = some r := by rw [if_pos rfl] at H; exact H
            clear H
            have H := H1
            clear H1
            replace H := Option.bind_eq_some_iff.mp H
            obtain ⟨t144, A100, H⟩ := H
            replace H : ((spec_Subset.f kj2 a0 a1).bind fun t145 => (some (t144 == t145))) = some r := H
            have A10 := Aside0.mk A100
            clear A100
            replace H := Option.bind_eq_some_iff.mp H
            obtain ⟨t145, A110, H⟩ := H
            replace H : (some (t144 == t145)) = some r := H
            have A11 := Aside0.mk A110
            clear A110
            obtain rfl := Option.some.inj H
            go_wp2_with (first | ((with_reducible refine gate_callee (f := 13) rfl ?_); refine goesL_ (some 14) rfl rfl Try.func13 (by kernel_rfl) rfl #[.string a0] rfl (by (try simp only [List.map_toArray, List.map_cons, List.map_nil]); first | done | rfl | (simp only [List.length_drop, List.length_take]; rfl)) ?_; (with_reducible refine (laws_valid.calls kj2 a0 true _ A6.out).mono ?_); rintro e w12 ⟨rfl, hb⟩; refine ⟨_, rfl, ?_⟩; have n0_ := Aside0.mk (below_step (by repeat (first | (with_reducible first | exact HB.out | apply below_alloc | apply pw_below_drewN | apply below_drew1) | exact HB.out)) hb); clear HB; have HB := n0_; clear n0_; (try clear hb); (try clear hb2); (try clear hk); (try clear hi)) | (go_at_call 13; (with_reducible refine (laws_valid.calls kj2 a1 true _ A8.out).mono ?_); rintro e w13 ⟨rfl, hb⟩; have n0_ := Aside0.mk (below_step (by repeat (first | (with_reducible first | exact HB.out | apply below_alloc | apply pw_below_drewN | apply below_drew1) | exact HB.out)) hb); clear HB; have HB := n0_; clear n0_; (try clear hb); (try clear hb2); (try clear hk); (try clear hi)) | (go_at_call 18; (with_reducible refine (impl_Subset.calls kj2 a0 a1 t144 _ A10.out).mono ?_); rintro e w14 ⟨rfl, hb⟩; have n0_ := Aside0.mk (below_step (by repeat (first | (with_reducible first | exact HB.out | apply below_alloc | apply pw_below_drewN | apply below_drew1) | exact HB.out)) hb); clear HB; have HB := n0_; clear n0_; (try clear hb); (try clear hb2); (try clear hk); (try clear hi)) | (go_at_call 19; (with_reducible refine (spec_Subset.calls kj2 a0 a1 t145 _ A11.out).mono ?_); rintro e w15 ⟨rfl, hb⟩; have n0_ := Aside0.mk (below_step (by repeat (first | (with_reducible first | exact HB.out | apply below_alloc | apply pw_below_drewN | apply below_drew1) | exact HB.out)) hb); clear HB; have HB := n0_; clear n0_; (try clear hb); (try clear hb2); (try clear hk); (try clear hi)))
            go_ret
            exact ⟨by first | rfl | (simp [errW_none, errW_some] <;> rfl) | (simp [*, errW_none, errW_some] <;> rfl), by repeat (first | (with_reducible first | exact HB.out | apply below_alloc | apply pw_below_drewN | apply below_drew1) | exact HB.out)⟩
          · replace c9 := Bool.eq_false_iff.mpr c9
            subst c9
            have H1 : (some true) = some r := by rw [if_neg (show ¬ (false = true) by decide)] at H; exact H
            clear H
            have H := H1
            clear H1
            obtain rfl := Option.some.inj H
            go_wp2_with (first | ((with_reducible refine gate_callee (f := 13) rfl ?_); refine goesL_ (some 14) rfl rfl Try.func13 (by kernel_rfl) rfl #[.string a0] rfl (by (try simp only [List.map_toArray, List.map_cons, List.map_nil]); first | done | rfl | (simp only [List.length_drop, List.length_take]; rfl)) ?_; (with_reducible refine (laws_valid.calls kj2 a0 true _ A6.out).mono ?_); rintro e w16 ⟨rfl, hb⟩; refine ⟨_, rfl, ?_⟩; have n0_ := Aside0.mk (below_step (by repeat (first | (with_reducible first | exact HB.out | apply below_alloc | apply pw_below_drewN | apply below_drew1) | exact HB.out)) hb); clear HB; have HB := n0_; clear n0_; (try clear hb); (try clear hb2); (try clear hk); (try clear hi)) | (go_at_call 13; (with_reducible refine (laws_valid.calls kj2 a1 false _ A8.out).mono ?_); rintro e w17 ⟨rfl, hb⟩; have n0_ := Aside0.mk (below_step (by repeat (first | (with_reducible first | exact HB.out | apply below_alloc | apply pw_below_drewN | apply below_drew1) | exact HB.out)) hb); clear HB; have HB := n0_; clear n0_; (try clear hb); (try clear hb2); (try clear hk); (try clear hi)))
            go_ret
            exact ⟨by first | rfl | (simp [errW_none, errW_some] <;> rfl) | (simp [*, errW_none, errW_some] <;> rfl), by repeat (first | (with_reducible first | exact HB.out | apply below_alloc | apply pw_below_drewN | apply below_drew1) | exact HB.out)⟩
        · replace c7 := Bool.eq_false_iff.mpr c7
          subst c7
          have H1 : (some true) = some r := by rw [if_neg (show ¬ (false = true) by decide)] at H; exact H
          clear H
          have H := H1
          clear H1
          obtain rfl := Option.some.inj H
          go_wp2_with (first | ((with_reducible refine gate_callee (f := 13) rfl ?_); refine goesL_ (some 14) rfl rfl Try.func13 (by kernel_rfl) rfl #[.string a0] rfl (by (try simp only [List.map_toArray, List.map_cons, List.map_nil]); first | done | rfl | (simp only [List.length_drop, List.length_take]; rfl)) ?_; (with_reducible refine (laws_valid.calls kj2 a0 false _ A6.out).mono ?_); rintro e w18 ⟨rfl, hb⟩; refine ⟨_, rfl, ?_⟩; have n0_ := Aside0.mk (below_step (by repeat (first | (with_reducible first | exact HB.out | apply below_alloc | apply pw_below_drewN | apply below_drew1) | exact HB.out)) hb); clear HB; have HB := n0_; clear n0_; (try clear hb); (try clear hb2); (try clear hk); (try clear hi)))
          go_ret
          exact ⟨by first | rfl | (simp [errW_none, errW_some] <;> rfl) | (simp [*, errW_none, errW_some] <;> rfl), by repeat (first | (with_reducible first | exact HB.out | apply below_alloc | apply pw_below_drewN | apply below_drew1) | exact HB.out)⟩

/-- THE ONE PURE STATEMENT of laws_FnSubset: yours. -/
def laws_FnSubset.Pure : Prop := ∀ (a0 : ByteArray) (a1 : ByteArray), a0.size ≤ 140737488351232 → a1.size ≤ 140737488351232 → ∃ k, laws_FnSubset.f k a0 a1 = some true
theorem laws_FnSubset.walk (P : laws_FnSubset.Pure) (a0 : ByteArray) (a1 : ByteArray) (w : World) (w0 : a0.size ≤ 140737488351232) (w1 : a1.size ≤ 140737488351232) :
    Calls Try.prog 5 #[.string a0, .string a1] w fun e w' => e = .returned (.bool true) ∧ Below w.heap.size w w' := by
  obtain ⟨k, h⟩ := P a0 a1 w0 w1
  refine (laws_FnSubset.calls k a0 a1 true w h).mono ?_
  rintro e w' ⟨rfl, hd⟩
  exact ⟨rfl, hd⟩

end Go.Proofs.Ytaobajfdnidkfaa.PFnSubset
