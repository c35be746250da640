-- PRINTED BY print.sh 35421559b90ae4d0a3588c463048766b98c2df88dd9212a6774a882060cdf62d: not written by this session
import Derived.Test.YtaobajfdnidkfaaPFnTokensBackx0
import Derived.Test.YtaobajfdnidkfaaPFnTokensBackx2
namespace Go.Proofs.Ytaobajfdnidkfaa.PFnTokensBack
open Go.RowKit Go.Proofs.YtaobajfdnidkfaaW.PrintWords Go.Proofs.YtaobajfdnidkfaaW.PrintLast Go.Proofs.YtaobajfdnidkfaaW.PrintMore
attribute [local go_sem] max2_int min2_int max_two min_two max_three min_three max_four min_four   -- for this text's walks alone
set_option linter.unusedVariables false
set_option linter.unusedSimpArgs false

/-! ### impl_NumTokens: function 17 -/
def impl_NumTokens.f (k : Nat) (a0 : ByteArray) : Option (Int) := (server_NumTokens.f k a0).bind fun t131 => (some t131)
theorem impl_NumTokens.mono : ∀ a0 k, LeO (impl_NumTokens.f k a0) (impl_NumTokens.f (k + 1) a0) := by
  intro a0 k
  unfold impl_NumTokens.f
  repeat' first
      | (with_reducible exact server_NumTokens.mono _ _)
      | (with_reducible exact LeO.refl _)
      | (with_reducible exact LeO.none _)
      | (with_reducible refine LeO.ite ?_ ?_)
      | (with_reducible refine LeO.bind ?_ (fun _ => ?_))
      | exact server_NumTokens.mono _ _
      | exact LeO.none _
      | refine LeO.ite ?_ ?_
      | refine LeO.bind ?_ (fun _ => ?_)
set_option maxHeartbeats 8000000 in
set_option maxRecDepth 100000 in
theorem impl_NumTokens.calls (k : Nat) (a0 : ByteArray) (r : Int) (w : World) (h : impl_NumTokens.f k a0 = some r) :
    Calls Try.prog 17 #[.string a0] w fun e w' => e = .returned (.int .i64 r) ∧ Drawn0 w w' := by
  have H : ((server_NumTokens.f k a0).bind fun t131 => (some t131)) = some r := h
  clear h
  replace H := Option.bind_eq_some_iff.mp H
  obtain ⟨t131, A20, H⟩ := H
  replace H : (some t131) = some r := H
  have A2 := Aside0.mk A20
  clear A20
  obtain rfl := Option.some.inj H
  go_enter Try.func17, Try.ntmps17
  go_wp2_with (first | ((with_reducible refine gate_callee (f := 38) rfl ?_); refine goesL_ (some 4) rfl rfl Try.func38 (by kernel_rfl) rfl #[.string a0] rfl (by (try simp only [List.map_toArray, List.map_cons, List.map_nil]); first | done | rfl | (simp only [List.length_drop, List.length_take]; rfl)) ?_; (with_reducible refine (server_NumTokens.calls k a0 t131 _ A2.out).mono ?_); rintro e w' ⟨rfl, ⟨nd, rfl⟩⟩; refine ⟨_, rfl, ?_⟩))
  go_ret
  exact ⟨by first | rfl | (simp; done) | (simp [*]; done), by repeat (first | exact Drawn0.refl _ | apply Drawn0.step)⟩

/-! ### laws_FnTokensBack: function 4 -/
mutual
def laws_FnTokensBack.j0 : Nat → ByteArray → Bool → Option (Bool)
  | 0, _, _ => none
  | k + 1, x0, x15 => if x15 = true then (some true) else ((impl_TokenAt.f k x0 1).bind fun t134 => (laws_FnTokensBack.l0 k x0 t134 2))
def laws_FnTokensBack.l0 : Nat → ByteArray → ByteArray → Int → Option (Bool)
  | 0, _, _, _ => none
  | k + 1, x0, x3, x4 => (impl_NumTokens.f k x0).bind fun t135 => (if x4 ≤ t135 then (if x4 < 256 then ((impl_TokenAt.f k x0 x4).bind fun t136 => (if 1 + t136.size ≤ 9223372036854775807 then (if x3.size + ((⟨#[46]⟩ : ByteArray) ++ t136).size ≤ 9223372036854775807 then (laws_FnTokensBack.l0 k x0 (x3 ++ ((⟨#[46]⟩ : ByteArray) ++ t136)) (wrap64 (x4 + 1))) else (none)) else (none))) else (if x3.toList = x0.toList then ((impl_NumTokens.f k x0).bind fun t137 => ((impl_TokenAt.f k x0 (wrap64 (t137 + 1))).bind fun t138 => (some (t138.toList == ([] : List UInt8))))) else (some false))) else (if x3.toList = x0.toList then ((impl_NumTokens.f k x0).bind fun t139 => ((impl_TokenAt.f k x0 (wrap64 (t139 + 1))).bind fun t140 => (some (t140.toList == ([] : List UInt8))))) else (some false)))
end
def laws_FnTokensBack.f (k : Nat) (a0 : ByteArray) : Option (Bool) := if (a0.size : Int) > 2147483647 then (some true) else ((laws_valid.f k a0).bind fun t132 => (if t132 = true then ((spec_NumTokens.f k a0).bind fun t133 => (laws_FnTokensBack.j0 k a0 (decide (t133 > 200)))) else (laws_FnTokensBack.j0 k a0 true)))
theorem laws_FnTokensBack.mono_l : ∀ k, (∀ y0 y1, LeO (laws_FnTokensBack.j0 k y0 y1) (laws_FnTokensBack.j0 (k + 1) y0 y1)) ∧ (∀ y0 y1 y2, LeO (laws_FnTokensBack.l0 k y0 y1 y2) (laws_FnTokensBack.l0 (k + 1) y0 y1 y2))
  | 0 => ⟨fun _ _ r h => by simp [laws_FnTokensBack.j0] at h, fun _ _ _ r h => by simp [laws_FnTokensBack.l0] at h⟩
  | k + 1 => by
    obtain ⟨ih0, ih1⟩ := laws_FnTokensBack.mono_l k
    refine ⟨?_, ?_⟩
    · intro y0 y1
      unfold laws_FnTokensBack.j0
      repeat' first
      | (with_reducible exact ih0 _ _)
      | (with_reducible exact ih1 _ _ _)
      | (with_reducible exact impl_NumTokens.mono _ _)
      | (with_reducible exact impl_TokenAt.mono _ _ _)
      | (with_reducible exact laws_valid.mono _ _)
      | (with_reducible exact spec_NumTokens.mono _ _)
      | (with_reducible exact LeO.refl _)
      | (with_reducible exact LeO.none _)
      | (with_reducible refine LeO.ite ?_ ?_)
      | (with_reducible refine LeO.bind ?_ (fun _ => ?_))
      | exact ih0 _ _
      | exact ih1 _ _ _
      | exact impl_NumTokens.mono _ _
      | exact impl_TokenAt.mono _ _ _
      | exact laws_valid.mono _ _
      | exact spec_NumTokens.mono _ _
      | exact LeO.none _
      | refine LeO.ite ?_ ?_
      | refine LeO.bind ?_ (fun _ => ?_)
    · intro y0 y1 y2
      unfold laws_FnTokensBack.l0
      repeat' first
      | (with_reducible exact ih0 _ _)
      | (with_reducible exact ih1 _ _ _)
      | (with_reducible exact impl_NumTokens.mono _ _)
      | (with_reducible exact impl_TokenAt.mono _ _ _)
      | (with_reducible exact laws_valid.mono _ _)
      | (with_reducible exact spec_NumTokens.mono _ _)
      | (with_reducible exact LeO.refl _)
      | (with_reducible exact LeO.none _)
      | (with_reducible refine LeO.ite ?_ ?_)
      | (with_reducible refine LeO.bind ?_ (fun _ => ?_))
      | exact ih0 _ _
      | exact ih1 _ _ _
      | exact impl_NumTokens.mono _ _
      | exact impl_TokenAt.mono _ _ _
      | exact laws_valid.mono _ _
      | exact spec_NumTokens.mono _ _
      | exact LeO.none _
      | refine LeO.ite ?_ ?_
      | refine LeO.bind ?_ (fun _ => ?_)
theorem laws_FnTokensBack.mono : ∀ a0 k, LeO (laws_FnTokensBack.f k a0) (laws_FnTokensBack.f (k + 1) a0) := by
  intro a0 k
  obtain ⟨ih0, ih1⟩ := laws_FnTokensBack.mono_l k
  unfold laws_FnTokensBack.f
  repeat' first
      | (with_reducible exact ih0 _ _)
      | (with_reducible exact ih1 _ _ _)
      | (with_reducible exact impl_NumTokens.mono _ _)
      | (with_reducible exact impl_TokenAt.mono _ _ _)
      | (with_reducible exact laws_valid.mono _ _)
      | (with_reducible exact spec_NumTokens.mono _ _)
      | (with_reducible exact LeO.refl _)
      | (with_reducible exact LeO.none _)
      | (with_reducible refine LeO.ite ?_ ?_)
      | (with_reducible refine LeO.bind ?_ (fun _ => ?_))
      | exact ih0 _ _
      | exact ih1 _ _ _
      | exact impl_NumTokens.mono _ _
      | exact impl_TokenAt.mono _ _ _
      | exact laws_valid.mono _ _
      | exact spec_NumTokens.mono _ _
      | exact LeO.none _
      | refine LeO.ite ?_ ?_
      | refine LeO.bind ?_ (fun _ => ?_)
set_option maxHeartbeats 8000000 in
set_option maxRecDepth 100000 in
theorem laws_FnTokensBack.calls (k : Nat) (a0 : ByteArray) (r : Bool) (w : World) (h : laws_FnTokensBack.f k a0 = some r) :
    Calls Try.prog 4 #[.string a0] w fun e w' => e = .returned (.bool r) ∧ Below w.heap.size w w' := by
  have HB := Aside0.mk (Below.refl w.heap.size w)
  have H : (if (a0.size : Int) > 2147483647 then (some true) else ((laws_valid.f k a0).bind fun t132 => (if t132 = true then ((spec_NumTokens.f k a0).bind fun t133 => (laws_FnTokensBack.j0 k a0 (decide (t133 > 200)))) else (laws_FnTokensBack.j0 k a0 true)))) = some r := h
  clear h
  by_cases c2 : (a0.size : Int) > 2147483647
  · rw [if_pos c2] at H
    have c2b0 : decide (2147483647 < (a0.size : Int)) = true := decide_eq_true c2
    have c2b1 : decide (2147483647 < a0.size) = true := decide_eq_true (by omega)
    clear c2
    obtain rfl := Option.some.inj H
    go_enter Try.func4, Try.ntmps4
    go_wp2
    go_ret
    exact ⟨by first | rfl | (simp [errW_none, errW_some] <;> rfl) | (simp [*, errW_none, errW_some] <;> rfl), by repeat (first | (with_reducible first | exact HB.out | apply below_alloc | apply pw_below_drewN | apply below_drew1) | exact HB.out)⟩
  · rw [if_neg c2] at H
    have c2b0 : decide (2147483647 < (a0.size : Int)) = false := decide_eq_false c2
    have c2b1 : decide (2147483647 < a0.size) = false := decide_eq_false (by omega)
    clear c2
    have HC3 := Aside0.mk H
    clear H
    go_enter Try.func4, Try.ntmps4
    go_upto_region 3 with (fail)
    go_cut [15] (fun v15 wc => ∃ (kq : Nat) (x15_2 : Bool), v15 = .bool x15_2 ∧ Aside0 (laws_FnTokensBack.j0 kq a0 x15_2 = some r) ∧ Aside0 (kq ≤ k) ∧ Aside0 (Below w.heap.size w wc))
    case first =>
      have H := HC3.out
      clear HC3
      replace H := Option.bind_eq_some_iff.mp H
      obtain ⟨t132, A40, H⟩ := H
      replace H : (if t132 = true then ((spec_NumTokens.f k a0).bind fun t133 => (laws_FnTokensBack.j0 k a0 (decide (t133 > 200)))) else (laws_FnTokensBack.j0 k a0 true)) = some r := H
      have A4 := Aside0.mk A40
      clear A40
      by_cases c5 : t132 = true
      · subst c5
        have H1 : ((spec_NumTokens.f k a0).bind fun t133 => (laws_FnTokensBack.j0 k a0 (decide (t133 > 200)))) = some r := by rw [if_pos rfl] at H; exact H
        clear H
        have H := H1
        clear H1
        replace H := Option.bind_eq_some_iff.mp H
        obtain ⟨t133, A60, H⟩ := H
        replace H : (laws_FnTokensBack.j0 k a0 (decide (t133 > 200))) = some r := H
        have A6 := Aside0.mk A60
        clear A60
        have H' := Aside0.mk H
        clear H
        go_wp2_with (first | ((with_reducible refine gate_callee (f := 13) rfl ?_); refine goesL_ (some 9) rfl rfl Try.func13 (by kernel_rfl) rfl #[.string a0] rfl (by (try simp only [List.map_toArray, List.map_cons, List.map_nil]); first | done | rfl | (simp only [List.length_drop, List.length_take]; rfl)) ?_; (with_reducible refine (laws_valid.calls k a0 true _ A4.out).mono ?_); rintro e w7 ⟨rfl, hb⟩; refine ⟨_, rfl, ?_⟩; have n0_ := Aside0.mk (below_step (by repeat (first | (with_reducible first | exact HB.out | apply below_alloc | apply pw_below_drewN | apply below_drew1) | exact HB.out)) hb); clear HB; have HB := n0_; clear n0_; (try clear hb); (try clear hb2); (try clear hk); (try clear hi)) | (go_at_call 16; (with_reducible refine (spec_NumTokens.calls k a0 t133 _ A6.out).mono ?_); rintro e w8 ⟨rfl, hb⟩; have n0_ := Aside0.mk (below_step (by repeat (first | (with_reducible first | exact HB.out | apply below_alloc | apply pw_below_drewN | apply below_drew1) | exact HB.out)) hb); clear HB; have HB := n0_; clear n0_; (try clear hb); (try clear hb2); (try clear hk); (try clear hi)))
        go_meet
        case rel => exact ⟨_, (decide (t133 > 200)), (by first | rfl | (simp; done) | (simp [*]; done)), H', ⟨by first | omega | exact Nat.le_refl _⟩, ⟨by repeat (first | (with_reducible first | exact HB.out | apply below_alloc | apply pw_below_drewN | apply below_drew1) | exact HB.out)⟩⟩
      · replace c5 := Bool.eq_false_iff.mpr c5
        subst c5
        have H1 : (laws_FnTokensBack.j0 k a0 true) = some r := by rw [if_neg (show ¬ (false = true) by decide)] at H; exact H
        clear H
        have H := H1
        clear H1
        have H' := Aside0.mk H
        clear H
        go_wp2_with (first | ((with_reducible refine gate_callee (f := 13) rfl ?_); refine goesL_ (some 9) rfl rfl Try.func13 (by kernel_rfl) rfl #[.string a0] rfl (by (try simp only [List.map_toArray, List.map_cons, List.map_nil]); first | done | rfl | (simp only [List.length_drop, List.length_take]; rfl)) ?_; (with_reducible refine (laws_valid.calls k a0 false _ A4.out).mono ?_); rintro e w9 ⟨rfl, hb⟩; refine ⟨_, rfl, ?_⟩; have n0_ := Aside0.mk (below_step (by repeat (first | (with_reducible first | exact HB.out | apply below_alloc | apply pw_below_drewN | apply below_drew1) | exact HB.out)) hb); clear HB; have HB := n0_; clear n0_; (try clear hb); (try clear hb2); (try clear hk); (try clear hi)))
        go_meet
        case rel => exact ⟨_, (true), (by first | rfl | (simp; done) | (simp [*]; done)), H', ⟨by first | omega | exact Nat.le_refl _⟩, ⟨by repeat (first | (with_reducible first | exact HB.out | apply below_alloc | apply pw_below_drewN | apply below_drew1) | exact HB.out)⟩⟩
    case rest =>
      clear HC3
      try clear c1
      try clear c2
      try clear c2b0
      try clear c2b1
      try clear p2
      try clear c4
      try clear c5
      obtain ⟨kq, x15_2, rfl, HA, HJ2, HB⟩ := hcut
      cases kq with
      | zero => exact absurd HA.out (by simp [laws_FnTokensBack.j0])
      | succ kj2 =>
        have H := HA.out
        clear HA
        simp only [laws_FnTokensBack.j0] at H
        by_cases c10 : x15_2 = true
        · subst c10
          have H1 : (some true) = some r := by rw [if_pos rfl] at H; exact H
          clear H
          have H := H1
          clear H1
          obtain rfl := Option.some.inj H
          go_wp2
          go_ret
          exact ⟨by first | rfl | (simp [errW_none, errW_some] <;> rfl) | (simp [*, errW_none, errW_some] <;> rfl), by repeat (first | (with_reducible first | exact HB.out | apply below_alloc | apply pw_below_drewN | apply below_drew1) | exact HB.out)⟩
        · replace c10 := Bool.eq_false_iff.mpr c10
          subst c10
          have H1 : ((impl_TokenAt.f kj2 a0 1).bind fun t134 => (laws_FnTokensBack.l0 kj2 a0 t134 2)) = some r := by rw [if_neg (show ¬ (false = true) by decide)] at H; exact H
          clear H
          have H := H1
          clear H1
          replace H := Option.bind_eq_some_iff.mp H
          obtain ⟨t134, A110, H⟩ := H
          replace H : (laws_FnTokensBack.l0 kj2 a0 t134 2) = some r := H
          have A11 := Aside0.mk A110
          clear A110
          have H' := Aside0.mk H
          clear H
          go_wp2_with (first | ((with_reducible refine gate_callee (f := 14) rfl ?_); refine goesL_ (some 17) rfl rfl Try.func14 (by kernel_rfl) rfl #[.string a0, .int .i64 1] rfl (by (try simp only [List.map_toArray, List.map_cons, List.map_nil]); first | done | rfl | (simp only [List.length_drop, List.length_take]; rfl)) ?_; (with_reducible refine (impl_TokenAt.calls kj2 a0 1 t134 _ A11.out).mono ?_); rintro e w' ⟨rfl, ⟨nd, rfl⟩⟩; refine ⟨_, rfl, ?_⟩))
          go_loopg [3, 4] kj2 (fun kq v3 v4 w' => ∃ (x3_2 : ByteArray) (x4_2 : Int), v3 = .string x3_2 ∧ v4 = .int .i64 x4_2 ∧ Aside0 (laws_FnTokensBack.l0 kq a0 x3_2 x4_2 = some r) ∧ Aside0 (kq ≤ kj2) ∧ Aside0 (Below w.heap.size w w'))
          case atStart => exact ⟨(t134), (2), (by first | rfl | (simp; done) | (simp [*]; done)), (by first | rfl | (simp; done) | (simp [*]; done)), H', ⟨Nat.le_refl _⟩, ⟨by repeat (first | (with_reducible first | exact HB.out | apply below_alloc | apply pw_below_drewN | apply below_drew1) | exact HB.out)⟩⟩
          case round =>
            clear H'
            try clear c1
            try clear c2
            try clear c2b0
            try clear c2b1
            try clear p2
            try clear c4
            try clear c5
            try clear c10
            try clear p2
            obtain ⟨x3_2, x4_2, rfl, rfl, HA, HK2, HB⟩ := hrel
            cases gk with
            | zero => exact absurd HA.out (by simp [laws_FnTokensBack.l0])
            | succ k2 =>
              have H := HA.out
              clear HA
              simp only [laws_FnTokensBack.l0] at H
              replace H := Option.bind_eq_some_iff.mp H
              obtain ⟨t135, A120, H⟩ := H
              replace H : (if x4_2 ≤ t135 then (if x4_2 < 256 then ((impl_TokenAt.f k2 a0 x4_2).bind fun t136 => (if 1 + t136.size ≤ 9223372036854775807 then (if x3_2.size + ((⟨#[46]⟩ : ByteArray) ++ t136).size ≤ 9223372036854775807 then (laws_FnTokensBack.l0 k2 a0 (x3_2 ++ ((⟨#[46]⟩ : ByteArray) ++ t136)) (wrap64 (x4_2 + 1))) else (none)) else (none))) else (if x3_2.toList = a0.toList then ((impl_NumTokens.f k2 a0).bind fun t137 => ((impl_TokenAt.f k2 a0 (wrap64 (t137 + 1))).bind fun t138 => (some (t138.toList == ([] : List UInt8))))) else (some false))) else (if x3_2.toList = a0.toList then ((impl_NumTokens.f k2 a0).bind fun t139 => ((impl_TokenAt.f k2 a0 (wrap64 (t139 + 1))).bind fun t140 => (some (t140.toList == ([] : List UInt8))))) else (some false))) = some r := H
              have A12 := Aside0.mk A120
              clear A120
              by_cases c13 : x4_2 ≤ t135
              · rw [if_pos c13] at H
                have c13b0 : decide (x4_2 ≤ t135) = true := decide_eq_true c13
                clear c13
                by_cases c14 : x4_2 < 256
                · rw [if_pos c14] at H
                  have c14b0 : decide (x4_2 < 256) = true := decide_eq_true c14
                  clear c14
                  replace H := Option.bind_eq_some_iff.mp H
                  obtain ⟨t136, A150, H⟩ := H
                  replace H : (if 1 + t136.size ≤ 9223372036854775807 then (if x3_2.size + ((⟨#[46]⟩ : ByteArray) ++ t136).size ≤ 9223372036854775807 then (laws_FnTokensBack.l0 k2 a0 (x3_2 ++ ((⟨#[46]⟩ : ByteArray) ++ t136)) (wrap64 (x4_2 + 1))) else (none)) else (none)) = some r := H
                  have A15 := Aside0.mk A150
                  clear A150
                  by_cases c16 : 1 + t136.size ≤ 9223372036854775807
                  · rw [if_pos c16] at H
                    have c16b0 := eq_true c16
                    have c16b1 : decide (1 + t136.size ≤ 9223372036854775807) = true := decide_eq_true c16
                    try have c16b2 : (9223372036854775807 < 1 + t136.size) = False := eq_false (Nat.not_lt.2 c16)
                    by_cases c17 : x3_2.size + ((⟨#[46]⟩ : ByteArray) ++ t136).size ≤ 9223372036854775807
                    · rw [if_pos c17] at H
                      have c17b0 := eq_true c17
                      have c17b1 : decide (x3_2.size + ((⟨#[46]⟩ : ByteArray) ++ t136).size ≤ 9223372036854775807) = true := decide_eq_true c17
                      try have c17b2 : (9223372036854775807 < x3_2.size + ((⟨#[46]⟩ : ByteArray) ++ t136).size) = False := eq_false (Nat.not_lt.2 c17)
                      have H' := Aside0.mk H
                      clear H
                      go_wp2_with (first | ((with_reducible refine gate_callee (f := 17) rfl ?_); refine goesL_ (some 20) rfl rfl Try.func17 (by kernel_rfl) rfl #[.string a0] rfl (by (try simp only [List.map_toArray, List.map_cons, List.map_nil]); first | done | rfl | (simp only [List.length_drop, List.length_take]; rfl)) ?_; (with_reducible refine (impl_NumTokens.calls k2 a0 t135 _ A12.out).mono ?_); rintro e w' ⟨rfl, ⟨nd, rfl⟩⟩; refine ⟨_, rfl, ?_⟩) | ((with_reducible refine gate_callee (f := 14) rfl ?_); refine goesL_ (some 31) rfl rfl Try.func14 (by kernel_rfl) rfl #[.string a0, .int .i64 x4_2] rfl (by (try simp only [List.map_toArray, List.map_cons, List.map_nil]); first | done | rfl | (simp only [List.length_drop, List.length_take]; rfl)) ?_; (with_reducible refine (impl_TokenAt.calls k2 a0 x4_2 t136 _ A15.out).mono ?_); rintro e w' ⟨rfl, ⟨nd, rfl⟩⟩; refine ⟨_, rfl, ?_⟩))
                      go_roundg k2
                      case measure => have := HJ2.out; have := HK2.out; omega
                      case rel => exact ⟨(x3_2 ++ ((⟨#[46]⟩ : ByteArray) ++ t136)), (wrap64 (x4_2 + 1)), (by first | rfl | (simp; done) | (simp [*]; done)), (by first | rfl | (simp; done) | (simp [*]; done)), H', ⟨by have := HJ2.out; have := HK2.out; omega⟩, ⟨by repeat (first | (with_reducible first | exact HB.out | apply below_alloc | apply pw_below_drewN | apply below_drew1) | exact HB.out)⟩⟩
                    · rw [if_neg c17] at H
                      exact absurd H (by simp)
                  · rw [if_neg c16] at H
                    exact absurd H (by simp)
                · rw [if_neg c14] at H
                  have c14b0 : decide (x4_2 < 256) = false := decide_eq_false c14
                  clear c14
                  by_cases c18 : x3_2.toList = a0.toList
                  · rw [if_pos c18] at H
                    have c18b0 : (x3_2.toList == a0.toList) = true := beq_iff_eq.mpr c18
                    have c18b1 : (x3_2.toList != a0.toList) = false := bne_eq_false_iff_eq.mpr c18
                    clear c18
                    replace H := Option.bind_eq_some_iff.mp H
                    obtain ⟨t137, A190, H⟩ := H
                    replace H : ((impl_TokenAt.f k2 a0 (wrap64 (t137 + 1))).bind fun t138 => (some (t138.toList == ([] : List UInt8)))) = some r := H
                    have A19 := Aside0.mk A190
                    clear A190
                    replace H := Option.bind_eq_some_iff.mp H
                    obtain ⟨t138, A200, H⟩ := H
                    replace H : (some (t138.toList == ([] : List UInt8))) = some r := H
                    have A20 := Aside0.mk A200
                    clear A200
                    obtain rfl := Option.some.inj H
                    go_wp2_with (first | ((with_reducible refine gate_callee (f := 17) rfl ?_); refine goesL_ (some 20) rfl rfl Try.func17 (by kernel_rfl) rfl #[.string a0] rfl (by (try simp only [List.map_toArray, List.map_cons, List.map_nil]); first | done | rfl | (simp only [List.length_drop, List.length_take]; rfl)) ?_; (with_reducible refine (impl_NumTokens.calls k2 a0 t135 _ A12.out).mono ?_); rintro e w' ⟨rfl, ⟨nd, rfl⟩⟩; refine ⟨_, rfl, ?_⟩) | (go_at_call 17; (with_reducible refine (impl_NumTokens.calls k2 a0 t137 _ A19.out).mono ?_); rintro e w' ⟨rfl, ⟨nd, rfl⟩⟩) | (go_at_call 14; (with_reducible refine (impl_TokenAt.calls k2 a0 (wrap64 (t137 + 1)) t138 _ A20.out).mono ?_); rintro e w' ⟨rfl, ⟨nd, rfl⟩⟩))
                    go_ret
                    exact ⟨by first | rfl | (simp [errW_none, errW_some] <;> rfl) | (simp [*, errW_none, errW_some] <;> rfl), by repeat (first | (with_reducible first | exact HB.out | apply below_alloc | apply pw_below_drewN | apply below_drew1) | exact HB.out)⟩
                  · rw [if_neg c18] at H
                    have c18b0 : (x3_2.toList == a0.toList) = false := beq_eq_false_iff_ne.mpr c18
                    have c18b1 : (x3_2.toList != a0.toList) = true := bne_iff_ne.mpr c18
                    obtain rfl := Option.some.inj H
                    go_wp2_with (first | ((with_reducible refine gate_callee (f := 17) rfl ?_); refine goesL_ (some 20) rfl rfl Try.func17 (by kernel_rfl) rfl #[.string a0] rfl (by (try simp only [List.map_toArray, List.map_cons, List.map_nil]); first | done | rfl | (simp only [List.length_drop, List.length_take]; rfl)) ?_; (with_reducible refine (impl_NumTokens.calls k2 a0 t135 _ A12.out).mono ?_); rintro e w' ⟨rfl, ⟨nd, rfl⟩⟩; refine ⟨_, rfl, ?_⟩))
                    go_ret
                    exact ⟨by first | rfl | (simp [errW_none, errW_some] <;> rfl) | (simp [*, errW_none, errW_some] <;> rfl), by repeat (first | (with_reducible first | exact HB.out | apply below_alloc | apply pw_below_drewN | apply below_drew1) | exact HB.out)⟩
              · rw [if_neg c13] at H
                have c13b0 : decide (x4_2 ≤ t135) = false := decide_eq_false c13
                clear c13
                by_cases c21 : x3_2.toList = a0.toList
                · rw [if_pos c21] at H
                  have c21b0 : (x3_2.toList == a0.toList) = true := beq_iff_eq.mpr c21
                  have c21b1 : (x3_2.toList != a0.toList) = false := bne_eq_false_iff_eq.mpr c21
                  clear c21
                  replace H := Option.bind_eq_some_iff.mp H
                  obtain ⟨t139, A220, H⟩ := H
                  replace H : ((impl_TokenAt.f k2 a0 (wrap64 (t139 + 1))).bind fun t140 => (some (t140.toList == ([] : List UInt8)))) = some r := H
                  have A22 := Aside0.mk A220
                  clear A220
                  replace H := Option.bind_eq_some_iff.mp H
                  obtain ⟨t140, A230, H⟩ := H
                  replace H : (some (t140.toList == ([] : List UInt8))) = some r := H
                  have A23 := Aside0.mk A230
                  clear A230
                  obtain rfl := Option.some.inj H
                  go_wp2_with (first | ((with_reducible refine gate_callee (f := 17) rfl ?_); refine goesL_ (some 20) rfl rfl Try.func17 (by kernel_rfl) rfl #[.string a0] rfl (by (try simp only [List.map_toArray, List.map_cons, List.map_nil]); first | done | rfl | (simp only [List.length_drop, List.length_take]; rfl)) ?_; (with_reducible refine (impl_NumTokens.calls k2 a0 t135 _ A12.out).mono ?_); rintro e w' ⟨rfl, ⟨nd, rfl⟩⟩; refine ⟨_, rfl, ?_⟩) | (go_at_call 17; (with_reducible refine (impl_NumTokens.calls k2 a0 t139 _ A22.out).mono ?_); rintro e w' ⟨rfl, ⟨nd, rfl⟩⟩) | (go_at_call 14; (with_reducible refine (impl_TokenAt.calls k2 a0 (wrap64 (t139 + 1)) t140 _ A23.out).mono ?_); rintro e w' ⟨rfl, ⟨nd, rfl⟩⟩))
                  go_ret
                  exact ⟨by first | rfl | (simp [errW_none, errW_some] <;> rfl) | (simp [*, errW_none, errW_some] <;> rfl), by repeat (first | (with_reducible first | exact HB.out | apply below_alloc | apply pw_below_drewN | apply below_drew1) | exact HB.out)⟩
                · rw [if_neg c21] at H
                  have c21b0 : (x3_2.toList == a0.toList) = false := beq_eq_false_iff_ne.mpr c21
                  have c21b1 : (x3_2.toList != a0.toList) = true := bne_iff_ne.mpr c21
                  obtain rfl := Option.some.inj H
                  go_wp2_with (first | ((with_reducible refine gate_callee (f := 17) rfl ?_); refine goesL_ (some 20) rfl rfl Try.func17 (by kernel_rfl) rfl #[.string a0] rfl (by (try simp only [List.map_toArray, List.map_cons, List.map_nil]); first | done | rfl | (simp only [List.length_drop, List.length_take]; rfl)) ?_; (with_reducible refine (impl_NumTokens.calls k2 a0 t135 _ A12.out).mono ?_); rintro e w' ⟨rfl, ⟨nd, rfl⟩⟩; refine ⟨_, rfl, ?_⟩))
                  go_ret
                  exact ⟨by first | rfl | (simp [errW_none, errW_some] <;> rfl) | (simp [*, errW_none, errW_some] <;> rfl), by repeat (first | (with_reducible first | exact HB.out | apply below_alloc | apply pw_below_drewN | apply below_drew1) | exact HB.out)⟩

/-- THE ONE PURE STATEMENT of laws_FnTokensBack: yours. -/
def laws_FnTokensBack.Pure : Prop := ∀ (a0 : ByteArray), a0.size ≤ 140737488351232 → ∃ k, laws_FnTokensBack.f k a0 = some true
theorem laws_FnTokensBack.walk (P : laws_FnTokensBack.Pure) (a0 : ByteArray) (w : World) (w0 : a0.size ≤ 140737488351232) :
    Calls Try.prog 4 #[.string a0] w fun e w' => e = .returned (.bool true) ∧ Below w.heap.size w w' := by
  obtain ⟨k, h⟩ := P a0 w0
  refine (laws_FnTokensBack.calls k a0 true w h).mono ?_
  rintro e w' ⟨rfl, hd⟩
  exact ⟨rfl, hd⟩

end Go.Proofs.Ytaobajfdnidkfaa.PFnTokensBack
