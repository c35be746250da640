-- Written by hprint.py (this session's program, over the kit's printing program, with this session's own contracts in it). Not trusted: Lean checks it.
import Derived.Test.YtaobajfdnidkfaaPFnMatchesOrderx0
import Derived.Test.YtaobajfdnidkfaaPFnMatchesOrderx2
import Derived.Test.YtaobajfdnidkfaaPFnMatchesOrderx3
namespace Go.Proofs.Ytaobajfdnidkfaa.PFnMatchesOrder
open Go.RowKit Go.Proofs.YtaobajfdnidkfaaW.PrintWords Go.Proofs.YtaobajfdnidkfaaW.PrintLast Go.Proofs.YtaobajfdnidkfaaW.PrintMore
attribute [local go_sem] max2_int min2_int max_two min_two max_three min_three max_four min_four   -- for this text's walks alone
set_option linter.unusedVariables false
set_option linter.unusedSimpArgs false

/-! ### server_isSubsetMatch: function 66 -/
def server_isSubsetMatch.f (k : Nat) (l0 : List ByteArray) (a1 : ByteArray) : Option Bool := if a1.size ≤ 2147483647 then server_isSubsetMatchTokenized.f k l0 (Road.tokB a1) else none
theorem server_isSubsetMatch.mono : ∀ a0 a1 k, LeO (server_isSubsetMatch.f k a0 a1) (server_isSubsetMatch.f (k + 1) a0 a1) := by
  intro a0 a1 k
  unfold server_isSubsetMatch.f
  exact LeO.ite (server_isSubsetMatchTokenized.mono _ _ _) (LeO.none _)
theorem zero_strs32 : ∀ w : World, (Instr.build 47 #[]).run Try.prog w = .ok (.agg Road.strs32) w := fun w => by kernel_rfl
theorem new_strs32 : ∀ w : World, (Instr.alloc 47 true (.tuple #[])).run Try.prog w = .ok (.pointer (some ⟨w.heap.size, 0, none⟩)) (w.alloc (.cells Road.strs32 47)) := fun w => by kernel_rfl
theorem info_strs32 : (Try.prog.info? 47).map (·.size) = some Road.strs32.size := by kernel_rfl
set_option maxHeartbeats 8000000 in
set_option maxRecDepth 100000 in
theorem server_isSubsetMatch.calls (k : Nat) (A0 : Option Addr) (c0 : Nat) (l0 : List ByteArray) (a1 : ByteArray) (r : Bool) (w : World) (hr0 : Kd.C Kd.string w A0 l0.length l0) (hc0 : l0.length ≤ c0) (h : server_isSubsetMatch.f k l0 a1 = some r) :
    Calls Try.prog 66 #[.slice A0 l0.length c0, .string a1] w fun e w' => e = .returned (.bool r) ∧ Below w.heap.size w w' := by
  unfold server_isSubsetMatch.f at h
  by_cases hs : a1.size ≤ 2147483647
  · rw [if_pos hs] at h
    have HS := Aside0.mk hs
    have HH := Aside0.mk h
    have HC0 := Aside0.mk hc0
    have HR0 := Aside0.mk hr0
    clear h hs hc0 hr0
    go_enter Try.func66, Try.ntmps66
    go_wp2_with (refine Road.wpList_zeroVar 47 7 5 Road.strs32 rfl rfl rfl rfl rfl rfl rfl rfl rfl zero_strs32 new_strs32 info_strs32 Road.strs32_one rfl rfl (by decide) ?_)
    refine (server_tokenizeSubjectIntoSlice.any _ a1 w _ HS.out (below_alloc (Below.refl _ _) _) (Road.strs32_row w w.heap.size 47 (Nat.le_refl _))).mono ?_
    rintro e w1 ⟨v, rfl, ho, hb⟩
    obtain ⟨A, c, rfl, h1, h2⟩ := ho.reads
    have HB := Aside0.mk hb
    have H1 := Aside0.mk h1
    have H2 := Aside0.mk h2
    clear hb h1 h2 ho
    go_wp2_with fail
    refine (server_isSubsetMatchTokenized.calls k A0 c0 l0 A c (Road.tokB a1) r _ (Kd.C_below HR0.out HB.out) HC0.out H2.out H1.out HH.out).mono ?_
    rintro e w2 ⟨rfl, hb2⟩
    obtain ⟨⟨nd, rfl⟩⟩ := hb2
    go_wp2_with fail
    go_ret
    exact ⟨rfl, pw_below_drewN HB.out _⟩
  · rw [if_neg hs] at h
    exact absurd h (by simp)


/-! ### server_subjectIsSubsetMatch: function 55 -/
def server_subjectIsSubsetMatch.f (k : Nat) (a0 a1 : ByteArray) : Option Bool := if a0.size ≤ 2147483647 then server_isSubsetMatch.f k (Road.tokB a0) a1 else none
theorem server_subjectIsSubsetMatch.mono : ∀ a0 a1 k, LeO (server_subjectIsSubsetMatch.f k a0 a1) (server_subjectIsSubsetMatch.f (k + 1) a0 a1) := by
  intro a0 a1 k
  unfold server_subjectIsSubsetMatch.f
  exact LeO.ite (server_isSubsetMatch.mono _ _ _) (LeO.none _)
set_option maxHeartbeats 8000000 in
set_option maxRecDepth 100000 in
theorem server_subjectIsSubsetMatch.calls (k : Nat) (a0 a1 : ByteArray) (r : Bool) (w : World) (h : server_subjectIsSubsetMatch.f k a0 a1 = some r) :
    Calls Try.prog 55 #[.string a0, .string a1] w fun e w' => e = .returned (.bool r) ∧ Below w.heap.size w w' := by
  unfold server_subjectIsSubsetMatch.f at h
  by_cases hs : a0.size ≤ 2147483647
  · rw [if_pos hs] at h
    have HS := Aside0.mk hs
    have HH := Aside0.mk h
    clear h hs
    go_enter Try.func55, Try.ntmps55
    go_wp2_with (refine Road.wpList_zeroVar 47 7 5 Road.strs32 rfl rfl rfl rfl rfl rfl rfl rfl rfl zero_strs32 new_strs32 info_strs32 Road.strs32_one rfl rfl (by decide) ?_)
    refine (server_tokenizeSubjectIntoSlice.any _ a0 w _ HS.out (below_alloc (Below.refl _ _) _) (Road.strs32_row w w.heap.size 47 (Nat.le_refl _))).mono ?_
    rintro e w1 ⟨v, rfl, ho, hb⟩
    obtain ⟨A, c, rfl, h1, h2⟩ := ho.reads
    have HB := Aside0.mk hb
    have H1 := Aside0.mk h1
    have H2 := Aside0.mk h2
    clear hb h1 h2 ho
    go_wp2_with fail
    refine (server_isSubsetMatch.calls k A c (Road.tokB a0) a1 r _ H2.out H1.out HH.out).mono ?_
    rintro e w2 ⟨rfl, hb2⟩
    have HB2 := Aside0.mk hb2
    clear hb2
    go_wp2_with fail
    go_ret
    exact ⟨rfl, below_step HB.out HB2.out⟩
  · rw [if_neg hs] at h
    exact absurd h (by simp)


/-! ### server_SubjectMatchesFilter: function 41 -/
def server_SubjectMatchesFilter.f (k : Nat) (a0 : ByteArray) (a1 : ByteArray) : Option (Bool) := (server_subjectIsSubsetMatch.f k a0 a1).bind fun t128 => (some t128)
theorem server_SubjectMatchesFilter.mono : ∀ a0 a1 k, LeO (server_SubjectMatchesFilter.f k a0 a1) (server_SubjectMatchesFilter.f (k + 1) a0 a1) := by
  intro a0 a1 k
  unfold server_SubjectMatchesFilter.f
  repeat' first
      | (with_reducible exact server_subjectIsSubsetMatch.mono _ _ _)
      | (with_reducible exact LeO.refl _)
      | (with_reducible exact LeO.none _)
      | (with_reducible refine LeO.ite ?_ ?_)
      | (with_reducible refine LeO.bind ?_ (fun _ => ?_))
      | exact server_subjectIsSubsetMatch.mono _ _ _
      | exact LeO.none _
      | refine LeO.ite ?_ ?_
      | refine LeO.bind ?_ (fun _ => ?_)
set_option maxHeartbeats 8000000 in
set_option maxRecDepth 100000 in
theorem server_SubjectMatchesFilter.calls (k : Nat) (a0 : ByteArray) (a1 : ByteArray) (r : Bool) (w : World) (h : server_SubjectMatchesFilter.f k a0 a1 = some r) :
    Calls Try.prog 41 #[.string a0, .string a1] w fun e w' => e = .returned (.bool r) ∧ Below w.heap.size w w' := by
  have HB := Aside0.mk (Below.refl w.heap.size w)
  have H : ((server_subjectIsSubsetMatch.f k a0 a1).bind fun t128 => (some t128)) = some r := h
  clear h
  replace H := Option.bind_eq_some_iff.mp H
  obtain ⟨t128, A30, H⟩ := H
  replace H : (some t128) = some r := H
  have A3 := Aside0.mk A30
  clear A30
  obtain rfl := Option.some.inj H
  go_enter Try.func41, Try.ntmps41
  go_wp2_with (first | ((with_reducible refine gate_callee (f := 55) rfl ?_); refine goesL_ (some 7) rfl rfl Try.func55 (by kernel_rfl) rfl #[.string a0, .string a1] rfl (by (try simp only [List.map_toArray, List.map_cons, List.map_nil]); first | done | rfl | (simp only [List.length_drop, List.length_take]; rfl)) ?_; (with_reducible refine (server_subjectIsSubsetMatch.calls k a0 a1 t128 _ A3.out).mono ?_); rintro e w4 ⟨rfl, hb⟩; refine ⟨_, rfl, ?_⟩; have n0_ := Aside0.mk (below_step (by repeat (first | (with_reducible first | exact HB.out | apply below_alloc | apply pw_below_drewN | apply below_drew1) | exact HB.out)) hb); clear HB; have HB := n0_; clear n0_; (try clear hb); (try clear hb2); (try clear hk); (try clear hi)))
  go_ret
  exact ⟨by first | rfl | (simp [errW_none, errW_some] <;> rfl) | (simp [*, errW_none, errW_some] <;> rfl), by repeat (first | (with_reducible first | exact HB.out | apply below_alloc | apply pw_below_drewN | apply below_drew1) | exact HB.out)⟩

/-! ### impl_Matches: function 20 -/
def impl_Matches.f (k : Nat) (a0 : ByteArray) (a1 : ByteArray) : Option (Bool) := (server_SubjectMatchesFilter.f k a0 a1).bind fun t129 => (some t129)
theorem impl_Matches.mono : ∀ a0 a1 k, LeO (impl_Matches.f k a0 a1) (impl_Matches.f (k + 1) a0 a1) := by
  intro a0 a1 k
  unfold impl_Matches.f
  repeat' first
      | (with_reducible exact server_SubjectMatchesFilter.mono _ _ _)
      | (with_reducible exact LeO.refl _)
      | (with_reducible exact LeO.none _)
      | (with_reducible refine LeO.ite ?_ ?_)
      | (with_reducible refine LeO.bind ?_ (fun _ => ?_))
      | exact server_SubjectMatchesFilter.mono _ _ _
      | exact LeO.none _
      | refine LeO.ite ?_ ?_
      | refine LeO.bind ?_ (fun _ => ?_)
set_option maxHeartbeats 8000000 in
set_option maxRecDepth 100000 in
theorem impl_Matches.calls (k : Nat) (a0 : ByteArray) (a1 : ByteArray) (r : Bool) (w : World) (h : impl_Matches.f k a0 a1 = some r) :
    Calls Try.prog 20 #[.string a0, .string a1] w fun e w' => e = .returned (.bool r) ∧ Below w.heap.size w w' := by
  have HB := Aside0.mk (Below.refl w.heap.size w)
  have H : ((server_SubjectMatchesFilter.f k a0 a1).bind fun t129 => (some t129)) = some r := h
  clear h
  replace H := Option.bind_eq_some_iff.mp H
  obtain ⟨t129, A30, H⟩ := H
  replace H : (some t129) = some r := H
  have A3 := Aside0.mk A30
  clear A30
  obtain rfl := Option.some.inj H
  go_enter Try.func20, Try.ntmps20
  go_wp2_with (first | ((with_reducible refine gate_callee (f := 41) rfl ?_); refine goesL_ (some 7) rfl rfl Try.func41 (by kernel_rfl) rfl #[.string a0, .string a1] rfl (by (try simp only [List.map_toArray, List.map_cons, List.map_nil]); first | done | rfl | (simp only [List.length_drop, List.length_take]; rfl)) ?_; (with_reducible refine (server_SubjectMatchesFilter.calls k a0 a1 t129 _ A3.out).mono ?_); rintro e w4 ⟨rfl, hb⟩; refine ⟨_, rfl, ?_⟩; have n0_ := Aside0.mk (below_step (by repeat (first | (with_reducible first | exact HB.out | apply below_alloc | apply pw_below_drewN | apply below_drew1) | exact HB.out)) hb); clear HB; have HB := n0_; clear n0_; (try clear hb); (try clear hb2); (try clear hk); (try clear hi)))
  go_ret
  exact ⟨by first | rfl | (simp [errW_none, errW_some] <;> rfl) | (simp [*, errW_none, errW_some] <;> rfl), by repeat (first | (with_reducible first | exact HB.out | apply below_alloc | apply pw_below_drewN | apply below_drew1) | exact HB.out)⟩

/-! ### laws_FnMatchesOrder: function 6 -/
mutual
def laws_FnMatchesOrder.j0 : Nat → ByteArray → ByteArray → ByteArray → Bool → Option (Bool)
  | 0, _, _, _, _ => none
  | k + 1, x0, x1, x2, x19 => if x19 = true then (some true) else ((laws_valid.f k x0).bind fun t130 => (if t130 = true then ((laws_valid.f k x1).bind fun t131 => (if t131 = true then ((laws_valid.f k x2).bind fun t132 => (laws_FnMatchesOrder.j1 k x0 x1 x2 (!t132))) else (laws_FnMatchesOrder.j1 k x0 x1 x2 true))) else (laws_FnMatchesOrder.j1 k x0 x1 x2 true)))
def laws_FnMatchesOrder.j1 : Nat → ByteArray → ByteArray → ByteArray → Bool → Option (Bool)
  | 0, _, _, _, _ => none
  | k + 1, x0, x1, x2, x32 => if x32 = true then (some true) else ((impl_Matches.f k x0 x0).bind fun t133 => (if t133 = true then ((impl_Matches.f k x0 x1).bind fun t134 => (if t134 = true then ((impl_Matches.f k x1 x0).bind fun t135 => (if t135 = true then (laws_FnMatchesOrder.j2 k x0 x1 x2 (x0.toList != x1.toList)) else (laws_FnMatchesOrder.j2 k x0 x1 x2 false))) else (laws_FnMatchesOrder.j2 k x0 x1 x2 false))) else (laws_FnMatchesOrder.j2 k x0 x1 x2 true)))
def laws_FnMatchesOrder.j2 : Nat → ByteArray → ByteArray → ByteArray → Bool → Option (Bool)
  | 0, _, _, _, _ => none
  | k + 1, x0, x1, x2, x51 => if x51 = true then (some false) else ((impl_Matches.f k x0 x1).bind fun t136 => (if t136 = true then ((impl_Matches.f k x1 x2).bind fun t137 => (if t137 = true then ((impl_Matches.f k x0 x2).bind fun t138 => (some t138)) else (some true))) else (some true)))
end
def laws_FnMatchesOrder.f (k : Nat) (a0 : ByteArray) (a1 : ByteArray) (a2 : ByteArray) : Option (Bool) := if (a0.size : Int) > 2147483647 then (laws_FnMatchesOrder.j0 k a0 a1 a2 true) else (if (a1.size : Int) > 2147483647 then (laws_FnMatchesOrder.j0 k a0 a1 a2 true) else (laws_FnMatchesOrder.j0 k a0 a1 a2 (decide ((a2.size : Int) > 2147483647))))
theorem laws_FnMatchesOrder.mono_l : ∀ k, (∀ y0 y1 y2 y3, LeO (laws_FnMatchesOrder.j0 k y0 y1 y2 y3) (laws_FnMatchesOrder.j0 (k + 1) y0 y1 y2 y3)) ∧ (∀ y0 y1 y2 y3, LeO (laws_FnMatchesOrder.j1 k y0 y1 y2 y3) (laws_FnMatchesOrder.j1 (k + 1) y0 y1 y2 y3)) ∧ (∀ y0 y1 y2 y3, LeO (laws_FnMatchesOrder.j2 k y0 y1 y2 y3) (laws_FnMatchesOrder.j2 (k + 1) y0 y1 y2 y3))
  | 0 => ⟨fun _ _ _ _ r h => by simp [laws_FnMatchesOrder.j0] at h, fun _ _ _ _ r h => by simp [laws_FnMatchesOrder.j1] at h, fun _ _ _ _ r h => by simp [laws_FnMatchesOrder.j2] at h⟩
  | k + 1 => by
    obtain ⟨ih0, ih1, ih2⟩ := laws_FnMatchesOrder.mono_l k
    refine ⟨?_, ?_, ?_⟩
    · intro y0 y1 y2 y3
      unfold laws_FnMatchesOrder.j0
      repeat' first
      | (with_reducible exact ih0 _ _ _ _)
      | (with_reducible exact ih1 _ _ _ _)
      | (with_reducible exact ih2 _ _ _ _)
      | (with_reducible exact impl_Matches.mono _ _ _)
      | (with_reducible exact laws_valid.mono _ _)
      | (with_reducible exact LeO.refl _)
      | (with_reducible exact LeO.none _)
      | (with_reducible refine LeO.ite ?_ ?_)
      | (with_reducible refine LeO.bind ?_ (fun _ => ?_))
      | exact ih0 _ _ _ _
      | exact ih1 _ _ _ _
      | exact ih2 _ _ _ _
      | exact impl_Matches.mono _ _ _
      | exact laws_valid.mono _ _
      | exact LeO.none _
      | refine LeO.ite ?_ ?_
      | refine LeO.bind ?_ (fun _ => ?_)
    · intro y0 y1 y2 y3
      unfold laws_FnMatchesOrder.j1
      repeat' first
      | (with_reducible exact ih0 _ _ _ _)
      | (with_reducible exact ih1 _ _ _ _)
      | (with_reducible exact ih2 _ _ _ _)
      | (with_reducible exact impl_Matches.mono _ _ _)
      | (with_reducible exact laws_valid.mono _ _)
      | (with_reducible exact LeO.refl _)
      | (with_reducible exact LeO.none _)
      | (with_reducible refine LeO.ite ?_ ?_)
      | (with_reducible refine LeO.bind ?_ (fun _ => ?_))
      | exact ih0 _ _ _ _
      | exact ih1 _ _ _ _
      | exact ih2 _ _ _ _
      | exact impl_Matches.mono _ _ _
      | exact laws_valid.mono _ _
      | exact LeO.none _
      | refine LeO.ite ?_ ?_
      | refine LeO.bind ?_ (fun _ => ?_)
    · intro y0 y1 y2 y3
      unfold laws_FnMatchesOrder.j2
      repeat' first
      | (with_reducible exact ih0 _ _ _ _)
      | (with_reducible exact ih1 _ _ _ _)
      | (with_reducible exact ih2 _ _ _ _)
      | (with_reducible exact impl_Matches.mono _ _ _)
      | (with_reducible exact laws_valid.mono _ _)
      | (with_reducible exact LeO.refl _)
      | (with_reducible exact LeO.none _)
      | (with_reducible refine LeO.ite ?_ ?_)
      | (with_reducible refine LeO.bind ?_ (fun _ => ?_))
      | exact ih0 _ _ _ _
      | exact ih1 _ _ _ _
      | exact ih2 _ _ _ _
      | exact impl_Matches.mono _ _ _
      | exact laws_valid.mono _ _
      | exact LeO.none _
      | refine LeO.ite ?_ ?_
      | refine LeO.bind ?_ (fun _ => ?_)
theorem laws_FnMatchesOrder.mono : ∀ a0 a1 a2 k, LeO (laws_FnMatchesOrder.f k a0 a1 a2) (laws_FnMatchesOrder.f (k + 1) a0 a1 a2) := by
  intro a0 a1 a2 k
  obtain ⟨ih0, ih1, ih2⟩ := laws_FnMatchesOrder.mono_l k
  unfold laws_FnMatchesOrder.f
  repeat' first
      | (with_reducible exact ih0 _ _ _ _)
      | (with_reducible exact ih1 _ _ _ _)
      | (with_reducible exact ih2 _ _ _ _)
      | (with_reducible exact impl_Matches.mono _ _ _)
      | (with_reducible exact laws_valid.mono _ _)
      | (with_reducible exact LeO.refl _)
      | (with_reducible exact LeO.none _)
      | (with_reducible refine LeO.ite ?_ ?_)
      | (with_reducible refine LeO.bind ?_ (fun _ => ?_))
      | exact ih0 _ _ _ _
      | exact ih1 _ _ _ _
      | exact ih2 _ _ _ _
      | exact impl_Matches.mono _ _ _
      | exact laws_valid.mono _ _
      | exact LeO.none _
      | refine LeO.ite ?_ ?_
      | refine LeO.bind ?_ (fun _ => ?_)
set_option maxHeartbeats 8000000 in
set_option maxRecDepth 100000 in
theorem laws_FnMatchesOrder.calls (k : Nat) (a0 : ByteArray) (a1 : ByteArray) (a2 : ByteArray) (r : Bool) (w : World) (h : laws_FnMatchesOrder.f k a0 a1 a2 = some r) :
    Calls Try.prog 6 #[.string a0, .string a1, .string a2] w fun e w' => e = .returned (.bool r) ∧ Below w.heap.size w w' := by
  have HB := Aside0.mk (Below.refl w.heap.size w)
  have H : (if (a0.size : Int) > 2147483647 then (laws_FnMatchesOrder.j0 k a0 a1 a2 true) else (if (a1.size : Int) > 2147483647 then (laws_FnMatchesOrder.j0 k a0 a1 a2 true) else (laws_FnMatchesOrder.j0 k a0 a1 a2 (decide ((a2.size : Int) > 2147483647))))) = some r := h
  clear h
  have HC4 := Aside0.mk H
  clear H
  go_enter Try.func6, Try.ntmps6
  go_upto_region 1 with (fail)
  go_cut [19] (fun v19 wc => ∃ (kq : Nat) (x19_3 : Bool), v19 = .bool x19_3 ∧ Aside0 (laws_FnMatchesOrder.j0 kq a0 a1 a2 x19_3 = some r) ∧ Aside0 (kq ≤ k) ∧ Aside0 (Below w.heap.size w wc))
  case first =>
    have H := HC4.out
    clear HC4
    by_cases c5 : (a0.size : Int) > 2147483647
    · rw [if_pos c5] at H
      have c5b0 : decide (2147483647 < (a0.size : Int)) = true := decide_eq_true c5
      have c5b1 : decide (2147483647 < a0.size) = true := decide_eq_true (by omega)
      clear c5
      (first | rw [c5b0] | (simp only [i64_w, i32_w]; rw [c5b0]) | skip)
      have H' := Aside0.mk H
      clear H
      go_wp2
      go_meet
      case rel => exact ⟨_, (true), (by first | rfl | (simp; done) | (simp [*]; done)), H', ⟨by first | omega | exact Nat.le_refl _⟩, ⟨by repeat (first | (with_reducible first | exact HB.out | apply below_alloc | apply pw_below_drewN | apply below_drew1) | exact HB.out)⟩⟩
    · rw [if_neg c5] at H
      have c5b0 : decide (2147483647 < (a0.size : Int)) = false := decide_eq_false c5
      have c5b1 : decide (2147483647 < a0.size) = false := decide_eq_false (by omega)
      clear c5
      (first | rw [c5b0] | (simp only [i64_w, i32_w]; rw [c5b0]) | skip)
      by_cases c6 : (a1.size : Int) > 2147483647
      · rw [if_pos c6] at H
        have c6b0 : decide (2147483647 < (a1.size : Int)) = true := decide_eq_true c6
        have c6b1 : decide (2147483647 < a1.size) = true := decide_eq_true (by omega)
        clear c6
        have H' := Aside0.mk H
        clear H
        go_wp2
        go_meet
        case rel => exact ⟨_, (true), (by first | rfl | (simp; done) | (simp [*]; done)), H', ⟨by first | omega | exact Nat.le_refl _⟩, ⟨by repeat (first | (with_reducible first | exact HB.out | apply below_alloc | apply pw_below_drewN | apply below_drew1) | exact HB.out)⟩⟩
      · rw [if_neg c6] at H
        have c6b0 : decide (2147483647 < (a1.size : Int)) = false := decide_eq_false c6
        have c6b1 : decide (2147483647 < a1.size) = false := decide_eq_false (by omega)
        clear c6
        have H' := Aside0.mk H
        clear H
        go_wp2
        go_meet
        case rel => exact ⟨_, (decide ((a2.size : Int) > 2147483647)), (by first | rfl | (simp; done) | (simp [*]; done)), H', ⟨by first | omega | exact Nat.le_refl _⟩, ⟨by repeat (first | (with_reducible first | exact HB.out | apply below_alloc | apply pw_below_drewN | apply below_drew1) | exact HB.out)⟩⟩
  case rest =>
    clear HC4
    try clear p2
    try clear c5
    try clear c5b0
    try clear c5b1
    try clear c6
    try clear c6b0
    try clear c6b1
    obtain ⟨kq, x19_3, rfl, HA, HJ3, HB⟩ := hcut
    cases kq with
    | zero => exact absurd HA.out (by simp [laws_FnMatchesOrder.j0])
    | succ kj3 =>
      have H := HA.out
      clear HA
      simp only [laws_FnMatchesOrder.j0] at H
      by_cases c7 : x19_3 = true
      · subst c7
        have H1 : (some true) = some r := by rw [if_pos rfl] at H; exact H
        clear H
        have H := H1
        clear H1
        obtain rfl := Option.some.inj H
        go_wp2
        go_ret
        exact ⟨by first | rfl | (simp [errW_none, errW_some] <;> rfl) | (simp [*, errW_none, errW_some] <;> rfl), by repeat (first | (with_reducible first | exact HB.out | apply below_alloc | apply pw_below_drewN | apply below_drew1) | exact HB.out)⟩
      · replace c7 := Bool.eq_false_iff.mpr c7
        subst c7
        have H1 : ((laws_valid.f kj3 a0).bind fun t130 => (if t130 = true then ((laws_valid.f kj3 a1).bind fun t131 => (if t131 = true then ((laws_valid.f kj3 a2).bind fun t132 => (laws_FnMatchesOrder.j1 kj3 a0 a1 a2 (!t132))) else (laws_FnMatchesOrder.j1 kj3 a0 a1 a2 true))) else (laws_FnMatchesOrder.j1 kj3 a0 a1 a2 true))) = some r := by rw [if_neg (show ¬ (false = true) by decide)] at H; exact H
        clear H
        have H := H1
        clear H1
        have HC8 := Aside0.mk H
        clear H
        go_upto_region 3 with (fail)
        go_cut [32] (fun v32 wc => ∃ (kq : Nat) (x32_7 : Bool), v32 = .bool x32_7 ∧ Aside0 (laws_FnMatchesOrder.j1 kq a0 a1 a2 x32_7 = some r) ∧ Aside0 (kq ≤ kj3) ∧ Aside0 (Below w.heap.size w wc))
        case first =>
          have H := HC8.out
          clear HC8
          replace H := Option.bind_eq_some_iff.mp H
          obtain ⟨t130, A90, H⟩ := H
          replace H : (if t130 = true then ((laws_valid.f kj3 a1).bind fun t131 => (if t131 = true then ((laws_valid.f kj3 a2).bind fun t132 => (laws_FnMatchesOrder.j1 kj3 a0 a1 a2 (!t132))) else (laws_FnMatchesOrder.j1 kj3 a0 a1 a2 true))) else (laws_FnMatchesOrder.j1 kj3 a0 a1 a2 true)) = some r := H
          have A9 := Aside0.mk A90
          clear A90
          by_cases c10 : t130 = true
          · subst c10
            have H1 : ((laws_valid.f kj3 a1).bind fun t131 => (if t131 = true then ((laws_valid.f kj3 a2).bind fun t132 => (laws_FnMatchesOrder.j1 kj3 a0 a1 a2 (!t132))) else (laws_FnMatchesOrder.j1 kj3 a0 a1 a2 true))) = some r := by rw [if_pos rfl] at H; exact H
            clear H
            have H := H1
            clear H1
            replace H := Option.bind_eq_some_iff.mp H
            obtain ⟨t131, A110, H⟩ := H
            replace H : (if t131 = true then ((laws_valid.f kj3 a2).bind fun t132 => (laws_FnMatchesOrder.j1 kj3 a0 a1 a2 (!t132))) else (laws_FnMatchesOrder.j1 kj3 a0 a1 a2 true)) = some r := H
            have A11 := Aside0.mk A110
            clear A110
            by_cases c12 : t131 = true
            · subst c12
              have H1 : ((laws_valid.f kj3 a2).bind fun t132 => (laws_FnMatchesOrder.j1 kj3 a0 a1 a2 (!t132))) = some r := by rw [if_pos rfl] at H; exact H
              clear H
              have H := H1
              clear H1
              replace H := Option.bind_eq_some_iff.mp H
              obtain ⟨t132, A130, H⟩ := H
              replace H : (laws_FnMatchesOrder.j1 kj3 a0 a1 a2 (!t132)) = some r := H
              have A13 := Aside0.mk A130
              clear A130
              have H' := Aside0.mk H
              clear H
              go_wp2_with (first | ((with_reducible refine gate_callee (f := 13) rfl ?_); refine goesL_ (some 21) rfl rfl Try.func13 (by kernel_rfl) rfl #[.string a0] rfl (by (try simp only [List.map_toArray, List.map_cons, List.map_nil]); first | done | rfl | (simp only [List.length_drop, List.length_take]; rfl)) ?_; (with_reducible refine (laws_valid.calls kj3 a0 true _ A9.out).mono ?_); rintro e w14 ⟨rfl, hb⟩; refine ⟨_, rfl, ?_⟩; have n0_ := Aside0.mk (below_step (by repeat (first | (with_reducible first | exact HB.out | apply below_alloc | apply pw_below_drewN | apply below_drew1) | exact HB.out)) hb); clear HB; have HB := n0_; clear n0_; (try clear hb); (try clear hb2); (try clear hk); (try clear hi)) | (go_at_call 13; (with_reducible refine (laws_valid.calls kj3 a1 true _ A11.out).mono ?_); rintro e w15 ⟨rfl, hb⟩; have n0_ := Aside0.mk (below_step (by repeat (first | (with_reducible first | exact HB.out | apply below_alloc | apply pw_below_drewN | apply below_drew1) | exact HB.out)) hb); clear HB; have HB := n0_; clear n0_; (try clear hb); (try clear hb2); (try clear hk); (try clear hi)) | (go_at_call 13; (with_reducible refine (laws_valid.calls kj3 a2 t132 _ A13.out).mono ?_); rintro e w16 ⟨rfl, hb⟩; have n0_ := Aside0.mk (below_step (by repeat (first | (with_reducible first | exact HB.out | apply below_alloc | apply pw_below_drewN | apply below_drew1) | exact HB.out)) hb); clear HB; have HB := n0_; clear n0_; (try clear hb); (try clear hb2); (try clear hk); (try clear hi)))
              go_meet
              case rel => exact ⟨_, (!t132), (by first | rfl | (simp; done) | (simp [*]; done)), H', ⟨by have := HJ3.out; first | omega | exact Nat.le_refl _⟩, ⟨by repeat (first | (with_reducible first | exact HB.out | apply below_alloc | apply pw_below_drewN | apply below_drew1) | exact HB.out)⟩⟩
            · replace c12 := Bool.eq_false_iff.mpr c12
              subst c12
              have H1 : (laws_FnMatchesOrder.j1 kj3 a0 a1 a2 true) = some r := by rw [if_neg (show ¬ (false = true) by decide)] at H; exact H
              clear H
              have H := H1
              clear H1
              have H' := Aside0.mk H
              clear H
              go_wp2_with (first | ((with_reducible refine gate_callee (f := 13) rfl ?_); refine goesL_ (some 21) rfl rfl Try.func13 (by kernel_rfl) rfl #[.string a0] rfl (by (try simp only [List.map_toArray, List.map_cons, List.map_nil]); first | done | rfl | (simp only [List.length_drop, List.length_take]; rfl)) ?_; (with_reducible refine (laws_valid.calls kj3 a0 true _ A9.out).mono ?_); rintro e w17 ⟨rfl, hb⟩; refine ⟨_, rfl, ?_⟩; have n0_ := Aside0.mk (below_step (by repeat (first | (with_reducible first | exact HB.out | apply below_alloc | apply pw_below_drewN | apply below_drew1) | exact HB.out)) hb); clear HB; have HB := n0_; clear n0_; (try clear hb); (try clear hb2); (try clear hk); (try clear hi)) | (go_at_call 13; (with_reducible refine (laws_valid.calls kj3 a1 false _ A11.out).mono ?_); rintro e w18 ⟨rfl, hb⟩; have n0_ := Aside0.mk (below_step (by repeat (first | (with_reducible first | exact HB.out | apply below_alloc | apply pw_below_drewN | apply below_drew1) | exact HB.out)) hb); clear HB; have HB := n0_; clear n0_; (try clear hb); (try clear hb2); (try clear hk); (try clear hi)))
              go_meet
              case rel => exact ⟨_, (true), (by first | rfl | (simp; done) | (simp [*]; done)), H', ⟨by have := HJ3.out; first | omega | exact Nat.le_refl _⟩, ⟨by repeat (first | (with_reducible first | exact HB.out | apply below_alloc | apply pw_below_drewN | apply below_drew1) | exact HB.out)⟩⟩
          · replace c10 := Bool.eq_false_iff.mpr c10
            subst c10
            have H1 : (laws_FnMatchesOrder.j1 kj3 a0 a1 a2 true) = some r := by rw [if_neg (show ¬ (false = true) by decide)] at H; exact H
            clear H
            have H := H1
            clear H1
            have H' := Aside0.mk H
            clear H
            go_wp2_with (first | ((with_reducible refine gate_callee (f := 13) rfl ?_); refine goesL_ (some 21) rfl rfl Try.func13 (by kernel_rfl) rfl #[.string a0] rfl (by (try simp only [List.map_toArray, List.map_cons, List.map_nil]); first | done | rfl | (simp only [List.length_drop, List.length_take]; rfl)) ?_; (with_reducible refine (laws_valid.calls kj3 a0 false _ A9.out).mono ?_); rintro e w19 ⟨rfl, hb⟩; refine ⟨_, rfl, ?_⟩; have n0_ := Aside0.mk (below_step (by repeat (first | (with_reducible first | exact HB.out | apply below_alloc | apply pw_below_drewN | apply below_drew1) | exact HB.out)) hb); clear HB; have HB := n0_; clear n0_; (try clear hb); (try clear hb2); (try clear hk); (try clear hi)))
            go_meet
            case rel => exact ⟨_, (true), (by first | rfl | (simp; done) | (simp [*]; done)), H', ⟨by have := HJ3.out; first | omega | exact Nat.le_refl _⟩, ⟨by repeat (first | (with_reducible first | exact HB.out | apply below_alloc | apply pw_below_drewN | apply below_drew1) | exact HB.out)⟩⟩
        case rest =>
          clear HC8
          try clear c1
          try clear p2
          try clear c5
          try clear c5b0
          try clear c5b1
          try clear c6
          try clear c6b0
          try clear c6b1
          try clear c7
          try clear c10
          try clear c12
          try clear c13
          try clear p2
          obtain ⟨kq, x32_7, rfl, HA, HJ7, HB⟩ := hcut
          cases kq with
          | zero => exact absurd HA.out (by simp [laws_FnMatchesOrder.j1])
          | succ kj7 =>
            have H := HA.out
            clear HA
            simp only [laws_FnMatchesOrder.j1] at H
            by_cases c20 : x32_7 = true
            · subst c20
              have H1 : (some true) = some r := by rw [if_pos rfl] at H; exact H
              clear H
              have H := H1
              clear H1
              obtain rfl := Option.some.inj H
              go_wp2
              go_ret
              exact ⟨by first | rfl | (simp [errW_none, errW_some] <;> rfl) | (simp [*, errW_none, errW_some] <;> rfl), by repeat (first | (with_reducible first | exact HB.out | apply below_alloc | apply pw_below_drewN | apply below_drew1) | exact HB.out)⟩
            · replace c20 := Bool.eq_false_iff.mpr c20
              subst c20
              have H1 : ((impl_Matches.f kj7 a0 a0).bind fun t133 => (if t133 = true then ((impl_Matches.f kj7 a0 a1).bind fun t134 => (if t134 = true then ((impl_Matches.f kj7 a1 a0).bind fun t135 => (if t135 = true then (laws_FnMatchesOrder.j2 kj7 a0 a1 a2 (a0.toList != a1.toList)) else (laws_FnMatchesOrder.j2 kj7 a0 a1 a2 false))) else (laws_FnMatchesOrder.j2 kj7 a0 a1 a2 false))) else (laws_FnMatchesOrder.j2 kj7 a0 a1 a2 true))) = some r := by rw [if_neg (show ¬ (false = true) by decide)] at H; exact H
              clear H
              have H := H1
              clear H1
              have HC21 := Aside0.mk H
              clear H
              go_upto_region 5 with (fail)
              go_cut [51] (fun v51 wc => ∃ (kq : Nat) (x51_20 : Bool), v51 = .bool x51_20 ∧ Aside0 (laws_FnMatchesOrder.j2 kq a0 a1 a2 x51_20 = some r) ∧ Aside0 (kq ≤ kj7) ∧ Aside0 (Below w.heap.size w wc))
              case first =>
                have H := HC21.out
                clear HC21
                replace H := Option.bind_eq_some_iff.mp H
                obtain ⟨t133, A220, H⟩ := H
                replace H : (if t133 = true then ((impl_Matches.f kj7 a0 a1).bind fun t134 => (if t134 = true then ((impl_Matches.f kj7 a1 a0).bind fun t135 => (if t135 = true then (laws_FnMatchesOrder.j2 kj7 a0 a1 a2 (a0.toList != a1.toList)) else (laws_FnMatchesOrder.j2 kj7 a0 a1 a2 false))) else (laws_FnMatchesOrder.j2 kj7 a0 a1 a2 false))) else (laws_FnMatchesOrder.j2 kj7 a0 a1 a2 true)) = some r := H
                have A22 := Aside0.mk A220
                clear A220
                by_cases c23 : t133 = true
                · subst c23
                  have H1 : ((impl_Matches.f kj7 a0 a1).bind fun t134 => (if t134 = true then ((impl_Matches.f kj7 a1 a0).bind fun t135 => (if t135 = true then (laws_FnMatchesOrder.j2 kj7 a0 a1 a2 (a0.toList != a1.toList)) else (laws_FnMatchesOrder.j2 kj7 a0 a1 a2 false))) else (laws_FnMatchesOrder.j2 kj7 a0 a1 a2 false))) = some r := by rw [if_pos rfl] at H; exact H
                  clear H
                  have H := H1
                  clear H1
                  replace H := Option.bind_eq_some_iff.mp H
                  obtain ⟨t134, A240, H⟩ := H
                  replace H : (if t134 = true then ((impl_Matches.f kj7 a1 a0).bind fun t135 => (if t135 = true then (laws_FnMatchesOrder.j2 kj7 a0 a1 a2 (a0.toList != a1.toList)) else (laws_FnMatchesOrder.j2 kj7 a0 a1 a2 false))) else (laws_FnMatchesOrder.j2 kj7 a0 a1 a2 false)) = some r := H
                  have A24 := Aside0.mk A240
                  clear A240
                  by_cases c25 : t134 = true
                  · subst c25
                    have H1 : ((impl_Matches.f kj7 a1 a0).bind fun t135 => (if t135 = true then (laws_FnMatchesOrder.j2 kj7 a0 a1 a2 (a0.toList != a1.toList)) else (laws_FnMatchesOrder.j2 kj7 a0 a1 a2 false))) = some r := by rw [if_pos rfl] at H; exact H
                    clear H
                    have H := H1
                    clear H1
                    replace H := Option.bind_eq_some_iff.mp H
                    obtain ⟨t135, A260, H⟩ := H
                    replace H : (if t135 = true then (laws_FnMatchesOrder.j2 kj7 a0 a1 a2 (a0.toList != a1.toList)) else (laws_FnMatchesOrder.j2 kj7 a0 a1 a2 false)) = some r := H
                    have A26 := Aside0.mk A260
                    clear A260
                    by_cases c27 : t135 = true
                    · subst c27
                      have H1 : (laws_FnMatchesOrder.j2 kj7 a0 a1 a2 (a0.toList != a1.toList)) = some r := by rw [if_pos rfl] at H; exact H
                      clear H
                      have H := H1
                      clear H1
                      have H' := Aside0.mk H
                      clear H
                      go_wp2_with (first | ((with_reducible refine gate_callee (f := 20) rfl ?_); refine goesL_ (some 35) rfl rfl Try.func20 (by kernel_rfl) rfl #[.string a0, .string a0] rfl (by (try simp only [List.map_toArray, List.map_cons, List.map_nil]); first | done | rfl | (simp only [List.length_drop, List.length_take]; rfl)) ?_; (with_reducible refine (impl_Matches.calls kj7 a0 a0 true _ A22.out).mono ?_); rintro e w28 ⟨rfl, hb⟩; refine ⟨_, rfl, ?_⟩; have n0_ := Aside0.mk (below_step (by repeat (first | (with_reducible first | exact HB.out | apply below_alloc | apply pw_below_drewN | apply below_drew1) | exact HB.out)) hb); clear HB; have HB := n0_; clear n0_; (try clear hb); (try clear hb2); (try clear hk); (try clear hi)) | (go_at_call 20; (with_reducible refine (impl_Matches.calls kj7 a0 a1 true _ A24.out).mono ?_); rintro e w29 ⟨rfl, hb⟩; have n0_ := Aside0.mk (below_step (by repeat (first | (with_reducible first | exact HB.out | apply below_alloc | apply pw_below_drewN | apply below_drew1) | exact HB.out)) hb); clear HB; have HB := n0_; clear n0_; (try clear hb); (try clear hb2); (try clear hk); (try clear hi)) | (go_at_call 20; (with_reducible refine (impl_Matches.calls kj7 a1 a0 true _ A26.out).mono ?_); rintro e w30 ⟨rfl, hb⟩; have n0_ := Aside0.mk (below_step (by repeat (first | (with_reducible first | exact HB.out | apply below_alloc | apply pw_below_drewN | apply below_drew1) | exact HB.out)) hb); clear HB; have HB := n0_; clear n0_; (try clear hb); (try clear hb2); (try clear hk); (try clear hi)))
                      go_meet
                      case rel => exact ⟨_, ((a0.toList != a1.toList)), (by first | rfl | (simp; done) | (simp [*]; done)), H', ⟨by have := HJ3.out; have := HJ7.out; first | omega | exact Nat.le_refl _⟩, ⟨by repeat (first | (with_reducible first | exact HB.out | apply below_alloc | apply pw_below_drewN | apply below_drew1) | exact HB.out)⟩⟩
                    · replace c27 := Bool.eq_false_iff.mpr c27
                      subst c27
                      have H1 : (laws_FnMatchesOrder.j2 kj7 a0 a1 a2 false) = some r := by rw [if_neg (show ¬ (false = true) by decide)] at H; exact H
                      clear H
                      have H := H1
                      clear H1
                      have H' := Aside0.mk H
                      clear H
                      go_wp2_with (first | ((with_reducible refine gate_callee (f := 20) rfl ?_); refine goesL_ (some 35) rfl rfl Try.func20 (by kernel_rfl) rfl #[.string a0, .string a0] rfl (by (try simp only [List.map_toArray, List.map_cons, List.map_nil]); first | done | rfl | (simp only [List.length_drop, List.length_take]; rfl)) ?_; (with_reducible refine (impl_Matches.calls kj7 a0 a0 true _ A22.out).mono ?_); rintro e w31 ⟨rfl, hb⟩; refine ⟨_, rfl, ?_⟩; have n0_ := Aside0.mk (below_step (by repeat (first | (with_reducible first | exact HB.out | apply below_alloc | apply pw_below_drewN | apply below_drew1) | exact HB.out)) hb); clear HB; have HB := n0_; clear n0_; (try clear hb); (try clear hb2); (try clear hk); (try clear hi)) | (go_at_call 20; (with_reducible refine (impl_Matches.calls kj7 a0 a1 true _ A24.out).mono ?_); rintro e w32 ⟨rfl, hb⟩; have n0_ := Aside0.mk (below_step (by repeat (first | (with_reducible first | exact HB.out | apply below_alloc | apply pw_below_drewN | apply below_drew1) | exact HB.out)) hb); clear HB; have HB := n0_; clear n0_; (try clear hb); (try clear hb2); (try clear hk); (try clear hi)) | (go_at_call 20; (with_reducible refine (impl_Matches.calls kj7 a1 a0 false _ A26.out).mono ?_); rintro e w33 ⟨rfl, hb⟩; have n0_ := Aside0.mk (below_step (by repeat (first | (with_reducible first | exact HB.out | apply below_alloc | apply pw_below_drewN | apply below_drew1) | exact HB.out)) hb); clear HB; have HB := n0_; clear n0_; (try clear hb); (try clear hb2); (try clear hk); (try clear hi)))
                      go_meet
                      case rel => exact ⟨_, (false), (by first | rfl | (simp; done) | (simp [*]; done)), H', ⟨by have := HJ3.out; have := HJ7.out; first | omega | exact Nat.le_refl _⟩, ⟨by repeat (first | (with_reducible first | exact HB.out | apply below_alloc | apply pw_below_drewN | apply below_drew1) | exact HB.out)⟩⟩
                  · replace c25 := Bool.eq_false_iff.mpr c25
                    subst c25
                    have H1 : (laws_FnMatchesOrder.j2 kj7 a0 a1 a2 false) = some r := by rw [if_neg (show ¬ (false = true) by decide)] at H; exact H
                    clear H
                    have H := H1
                    clear H1
                    have H' := Aside0.mk H
                    clear H
                    go_wp2_with (first | ((with_reducible refine gate_callee (f := 20) rfl ?_); refine goesL_ (some 35) rfl rfl Try.func20 (by kernel_rfl) rfl #[.string a0, .string a0] rfl (by (try simp only [List.map_toArray, List.map_cons, List.map_nil]); first | done | rfl | (simp only [List.length_drop, List.length_take]; rfl)) ?_; (with_reducible refine (impl_Matches.calls kj7 a0 a0 true _ A22.out).mono ?_); rintro e w34 ⟨rfl, hb⟩; refine ⟨_, rfl, ?_⟩; have n0_ := Aside0.mk (below_step (by repeat (first | (with_reducible first | exact HB.out | apply below_alloc | apply pw_below_drewN | apply below_drew1) | exact HB.out)) hb); clear HB; have HB := n0_; clear n0_; (try clear hb); (try clear hb2); (try clear hk); (try clear hi)) | (go_at_call 20; (with_reducible refine (impl_Matches.calls kj7 a0 a1 false _ A24.out).mono ?_); rintro e w35 ⟨rfl, hb⟩; have n0_ := Aside0.mk (below_step (by repeat (first | (with_reducible first | exact HB.out | apply below_alloc | apply pw_below_drewN | apply below_drew1) | exact HB.out)) hb); clear HB; have HB := n0_; clear n0_; (try clear hb); (try clear hb2); (try clear hk); (try clear hi)))
                    go_meet
                    case rel => exact ⟨_, (false), (by first | rfl | (simp; done) | (simp [*]; done)), H', ⟨by have := HJ3.out; have := HJ7.out; first | omega | exact Nat.le_refl _⟩, ⟨by repeat (first | (with_reducible first | exact HB.out | apply below_alloc | apply pw_below_drewN | apply below_drew1) | exact HB.out)⟩⟩
                · replace c23 := Bool.eq_false_iff.mpr c23
                  subst c23
                  have H1 : (laws_FnMatchesOrder.j2 kj7 a0 a1 a2 true) = some r := by rw [if_neg (show ¬ (false = true) by decide)] at H; exact H
                  clear H
                  have H := H1
                  clear H1
                  have H' := Aside0.mk H
                  clear H
                  go_wp2_with (first | ((with_reducible refine gate_callee (f := 20) rfl ?_); refine goesL_ (some 35) rfl rfl Try.func20 (by kernel_rfl) rfl #[.string a0, .string a0] rfl (by (try simp only [List.map_toArray, List.map_cons, List.map_nil]); first | done | rfl | (simp only [List.length_drop, List.length_take]; rfl)) ?_; (with_reducible refine (impl_Matches.calls kj7 a0 a0 false _ A22.out).mono ?_); rintro e w36 ⟨rfl, hb⟩; refine ⟨_, rfl, ?_⟩; have n0_ := Aside0.mk (below_step (by repeat (first | (with_reducible first | exact HB.out | apply below_alloc | apply pw_below_drewN | apply below_drew1) | exact HB.out)) hb); clear HB; have HB := n0_; clear n0_; (try clear hb); (try clear hb2); (try clear hk); (try clear hi)))
                  go_meet
                  case rel => exact ⟨_, (true), (by first | rfl | (simp; done) | (simp [*]; done)), H', ⟨by have := HJ3.out; have := HJ7.out; first | omega | exact Nat.le_refl _⟩, ⟨by repeat (first | (with_reducible first | exact HB.out | apply below_alloc | apply pw_below_drewN | apply below_drew1) | exact HB.out)⟩⟩
              case rest =>
                clear HC21
                try clear c1
                try clear c2
                try clear p2
                try clear c5
                try clear c5b0
                try clear c5b1
                try clear c6
                try clear c6b0
                try clear c6b1
                try clear c7
                try clear c10
                try clear c12
                try clear c13
                try clear c20
                try clear c23
                try clear c25
                try clear c27
                try clear p2
                obtain ⟨kq, x51_20, rfl, HA, HJ20, HB⟩ := hcut
                cases kq with
                | zero => exact absurd HA.out (by simp [laws_FnMatchesOrder.j2])
                | succ kj20 =>
                  have H := HA.out
                  clear HA
                  simp only [laws_FnMatchesOrder.j2] at H
                  by_cases c37 : x51_20 = true
                  · subst c37
                    have H1 : (some false) = some r := by rw [if_pos rfl] at H; exact H
                    clear H
                    have H := H1
                    clear H1
                    obtain rfl := Option.some.inj H
                    go_wp2
                    go_ret
                    exact ⟨by first | rfl | (simp [errW_none, errW_some] <;> rfl) | (simp [*, errW_none, errW_some] <;> rfl), by repeat (first | (with_reducible first | exact HB.out | apply below_alloc | apply pw_below_drewN | apply below_drew1) | exact HB.out)⟩
                  · replace c37 := Bool.eq_false_iff.mpr c37
                    subst c37
                    have H1 : ((impl_Matches.f kj20 a0 a1).bind fun t136 => (if t136 = true then ((impl_Matches.f kj20 a1 a2).bind fun t137 => (if t137 = true then ((impl_Matches.f kj20 a0 a2).bind fun t138 => (some t138)) else (some true))) else (some true))) = some r := by rw [if_neg (show ¬ (false = true) by decide)] at H; exact H
                    clear H
                    have H := H1
                    clear H1
                    replace H := Option.bind_eq_some_iff.mp H
                    obtain ⟨t136, A380, H⟩ := H
                    replace H : (if t136 = true then ((impl_Matches.f kj20 a1 a2).bind fun t137 => (if t137 = true then ((impl_Matches.f kj20 a0 a2).bind fun t138 => (some t138)) else (some true))) else (some true)) = some r := H
                    have A38 := Aside0.mk A380
                    clear A380
                    by_cases c39 : t136 = true
                    · subst c39
                      have H1 : ((impl_Matches.f kj20 a1 a2).bind fun t137 => (if t137 = true then ((impl_Matches.f kj20 a0 a2).bind fun t138 => (some t138)) else (some true))) = some r := by rw [if_pos rfl] at H; exact H
                      clear H
                      have H := H1
                      clear H1
                      replace H := Option.bind_eq_some_iff.mp H
                      obtain ⟨t137, A400, H⟩ := H
                      replace H : (if t137 = true then ((impl_Matches.f kj20 a0 a2).bind fun t138 => (some t138)) else (some true)) = some r := H
                      have A40 := Aside0.mk A400
                      clear A400
                      by_cases c41 : t137 = true
                      · subst c41
                        have H1 : ((impl_Matches.f kj20 a0 a2).bind fun t138 => (some t138)) = some r := by rw [if_pos rfl] at H; exact H
                        clear H
                        have H := H1
                        clear H1
                        replace H := Option.bind_eq_some_iff.mp H
                        obtain ⟨t138, A420, H⟩ := H
                        replace H : (some t138) = some r := H
                        have A42 := Aside0.mk A420
                        clear A420
                        obtain rfl := Option.some.inj H
                        go_wp2_with (first | ((with_reducible refine gate_callee (f := 20) rfl ?_); refine goesL_ (some 54) rfl rfl Try.func20 (by kernel_rfl) rfl #[.string a0, .string a1] rfl (by (try simp only [List.map_toArray, List.map_cons, List.map_nil]); first | done | rfl | (simp only [List.length_drop, List.length_take]; rfl)) ?_; (with_reducible refine (impl_Matches.calls kj20 a0 a1 true _ A38.out).mono ?_); rintro e w43 ⟨rfl, hb⟩; refine ⟨_, rfl, ?_⟩; have n0_ := Aside0.mk (below_step (by repeat (first | (with_reducible first | exact HB.out | apply below_alloc | apply pw_below_drewN | apply below_drew1) | exact HB.out)) hb); clear HB; have HB := n0_; clear n0_; (try clear hb); (try clear hb2); (try clear hk); (try clear hi)) | (go_at_call 20; (with_reducible refine (impl_Matches.calls kj20 a1 a2 true _ A40.out).mono ?_); rintro e w44 ⟨rfl, hb⟩; have n0_ := Aside0.mk (below_step (by repeat (first | (with_reducible first | exact HB.out | apply below_alloc | apply pw_below_drewN | apply below_drew1) | exact HB.out)) hb); clear HB; have HB := n0_; clear n0_; (try clear hb); (try clear hb2); (try clear hk); (try clear hi)) | (go_at_call 20; (with_reducible refine (impl_Matches.calls kj20 a0 a2 t138 _ A42.out).mono ?_); rintro e w45 ⟨rfl, hb⟩; have n0_ := Aside0.mk (below_step (by repeat (first | (with_reducible first | exact HB.out | apply below_alloc | apply pw_below_drewN | apply below_drew1) | exact HB.out)) hb); clear HB; have HB := n0_; clear n0_; (try clear hb); (try clear hb2); (try clear hk); (try clear hi)))
                        go_ret
                        exact ⟨by first | rfl | (simp [errW_none, errW_some] <;> rfl) | (simp [*, errW_none, errW_some] <;> rfl), by repeat (first | (with_reducible first | exact HB.out | apply below_alloc | apply pw_below_drewN | apply below_drew1) | exact HB.out)⟩
                      · replace c41 := Bool.eq_false_iff.mpr c41
                        subst c41
                        have H1 : (some true) = some r := by rw [if_neg (show ¬ (false = true) by decide)] at H; exact H
                        clear H
                        have H := H1
                        clear H1
                        obtain rfl := Option.some.inj H
                        go_wp2_with (first | ((with_reducible refine gate_callee (f := 20) rfl ?_); refine goesL_ (some 54) rfl rfl Try.func20 (by kernel_rfl) rfl #[.string a0, .string a1] rfl (by (try simp only [List.map_toArray, List.map_cons, List.map_nil]); first | done | rfl | (simp only [List.length_drop, List.length_take]; rfl)) ?_; (with_reducible refine (impl_Matches.calls kj20 a0 a1 true _ A38.out).mono ?_); rintro e w46 ⟨rfl, hb⟩; refine ⟨_, rfl, ?_⟩; have n0_ := Aside0.mk (below_step (by repeat (first | (with_reducible first | exact HB.out | apply below_alloc | apply pw_below_drewN | apply below_drew1) | exact HB.out)) hb); clear HB; have HB := n0_; clear n0_; (try clear hb); (try clear hb2); (try clear hk); (try clear hi)) | (go_at_call 20; (with_reducible refine (impl_Matches.calls kj20 a1 a2 false _ A40.out).mono ?_); rintro e w47 ⟨rfl, hb⟩; have n0_ := Aside0.mk (below_step (by repeat (first | (with_reducible first | exact HB.out | apply below_alloc | apply pw_below_drewN | apply below_drew1) | exact HB.out)) hb); clear HB; have HB := n0_; clear n0_; (try clear hb); (try clear hb2); (try clear hk); (try clear hi)))
                        go_ret
                        exact ⟨by first | rfl | (simp [errW_none, errW_some] <;> rfl) | (simp [*, errW_none, errW_some] <;> rfl), by repeat (first | (with_reducible first | exact HB.out | apply below_alloc | apply pw_below_drewN | apply below_drew1) | exact HB.out)⟩
                    · replace c39 := Bool.eq_false_iff.mpr c39
                      subst c39
                      have H1 : (some true) = some r := by rw [if_neg (show ¬ (false = true) by decide)] at H; exact H
                      clear H
                      have H := H1
                      clear H1
                      obtain rfl := Option.some.inj H
                      go_wp2_with (first | ((with_reducible refine gate_callee (f := 20) rfl ?_); refine goesL_ (some 54) rfl rfl Try.func20 (by kernel_rfl) rfl #[.string a0, .string a1] rfl (by (try simp only [List.map_toArray, List.map_cons, List.map_nil]); first | done | rfl | (simp only [List.length_drop, List.length_take]; rfl)) ?_; (with_reducible refine (impl_Matches.calls kj20 a0 a1 false _ A38.out).mono ?_); rintro e w48 ⟨rfl, hb⟩; refine ⟨_, rfl, ?_⟩; have n0_ := Aside0.mk (below_step (by repeat (first | (with_reducible first | exact HB.out | apply below_alloc | apply pw_below_drewN | apply below_drew1) | exact HB.out)) hb); clear HB; have HB := n0_; clear n0_; (try clear hb); (try clear hb2); (try clear hk); (try clear hi)))
                      go_ret
                      exact ⟨by first | rfl | (simp [errW_none, errW_some] <;> rfl) | (simp [*, errW_none, errW_some] <;> rfl), by repeat (first | (with_reducible first | exact HB.out | apply below_alloc | apply pw_below_drewN | apply below_drew1) | exact HB.out)⟩

/-- THE ONE PURE STATEMENT of laws_FnMatchesOrder: yours. -/
def laws_FnMatchesOrder.Pure : Prop := ∀ (a0 : ByteArray) (a1 : ByteArray) (a2 : ByteArray), a0.size ≤ 140737488351232 → a1.size ≤ 140737488351232 → a2.size ≤ 140737488351232 → ∃ k, laws_FnMatchesOrder.f k a0 a1 a2 = some true
theorem laws_FnMatchesOrder.walk (P : laws_FnMatchesOrder.Pure) (a0 : ByteArray) (a1 : ByteArray) (a2 : ByteArray) (w : World) (w0 : a0.size ≤ 140737488351232) (w1 : a1.size ≤ 140737488351232) (w2 : a2.size ≤ 140737488351232) :
    Calls Try.prog 6 #[.string a0, .string a1, .string a2] w fun e w' => e = .returned (.bool true) ∧ Below w.heap.size w w' := by
  obtain ⟨k, h⟩ := P a0 a1 a2 w0 w1 w2
  refine (laws_FnMatchesOrder.calls k a0 a1 a2 true w h).mono ?_
  rintro e w' ⟨rfl, hd⟩
  exact ⟨rfl, hd⟩

end Go.Proofs.Ytaobajfdnidkfaa.PFnMatchesOrder
