-- Written by hprint.py (this session's program, over the kit's printing program, with this session's own contracts in it). Not trusted: Lean checks it.
import Derived.Test.YtaobajfdnidkfaaPFnCollidex0
import Derived.Test.YtaobajfdnidkfaaPFnCollidex2
import Derived.Test.YtaobajfdnidkfaaPFnCollidex3
namespace Go.Proofs.Ytaobajfdnidkfaa.PFnCollide
open Go.RowKit Go.Proofs.YtaobajfdnidkfaaW.PrintWords Go.Proofs.YtaobajfdnidkfaaW.PrintLast Go.Proofs.YtaobajfdnidkfaaW.PrintMore
attribute [local go_sem] max2_int min2_int max_two min_two max_three min_three max_four min_four   -- for this text's walks alone
set_option linter.unusedVariables false
set_option linter.unusedSimpArgs false

/-! ### server_tokensCanMatch: function 62 -/
def server_tokensCanMatch.j0 : Nat → ByteArray → ByteArray → Bool → Option (Bool)
  | 0, _, _, _ => none
  | k + 1, x0, x1, x14 => if x14 = true then (some false) else (if 0 < (x0.size : Int) then (if 0 < (x1.size : Int) then (if (bt x0 0) = 42 then (some true) else (if (bt x1 0) = 42 then (some true) else (if (bt x0 0) = 62 then (some true) else (if (bt x1 0) = 62 then (some true) else (some (x0.toList == x1.toList)))))) else (none)) else (none))
def server_tokensCanMatch.f (k : Nat) (a0 : ByteArray) (a1 : ByteArray) : Option (Bool) := if (a0.size : Int) = 0 then (server_tokensCanMatch.j0 k a0 a1 true) else (server_tokensCanMatch.j0 k a0 a1 ((a1.size : Int) == 0))
theorem server_tokensCanMatch.mono_l : ∀ k, (∀ y0 y1 y2, LeO (server_tokensCanMatch.j0 k y0 y1 y2) (server_tokensCanMatch.j0 (k + 1) y0 y1 y2))
  | 0 => fun _ _ _ r h => by simp [server_tokensCanMatch.j0] at h
  | k + 1 => by
    have ih0 := server_tokensCanMatch.mono_l k
    · intro y0 y1 y2
      unfold server_tokensCanMatch.j0
      repeat' first
      | (with_reducible exact ih0 _ _ _)
      | (with_reducible exact LeO.refl _)
      | (with_reducible exact LeO.none _)
      | (with_reducible refine LeO.ite ?_ ?_)
      | (with_reducible refine LeO.bind ?_ (fun _ => ?_))
      | exact ih0 _ _ _
      | exact LeO.none _
      | refine LeO.ite ?_ ?_
      | refine LeO.bind ?_ (fun _ => ?_)
theorem server_tokensCanMatch.mono : ∀ a0 a1 k, LeO (server_tokensCanMatch.f k a0 a1) (server_tokensCanMatch.f (k + 1) a0 a1) := by
  intro a0 a1 k
  have ih0 := server_tokensCanMatch.mono_l k
  unfold server_tokensCanMatch.f
  repeat' first
      | (with_reducible exact ih0 _ _ _)
      | (with_reducible exact LeO.refl _)
      | (with_reducible exact LeO.none _)
      | (with_reducible refine LeO.ite ?_ ?_)
      | (with_reducible refine LeO.bind ?_ (fun _ => ?_))
      | exact ih0 _ _ _
      | exact LeO.none _
      | refine LeO.ite ?_ ?_
      | refine LeO.bind ?_ (fun _ => ?_)
set_option maxHeartbeats 8000000 in
set_option maxRecDepth 100000 in
theorem server_tokensCanMatch.calls (k : Nat) (a0 : ByteArray) (a1 : ByteArray) (r : Bool) (w : World) (h : server_tokensCanMatch.f k a0 a1 = some r) :
    Calls Try.prog 62 #[.string a0, .string a1] w fun e w' => e = .returned (.bool r) ∧ Drawn0 w w' := by
  have H : (if (a0.size : Int) = 0 then (server_tokensCanMatch.j0 k a0 a1 true) else (server_tokensCanMatch.j0 k a0 a1 ((a1.size : Int) == 0))) = some r := h
  clear h
  have HC3 := Aside0.mk H
  clear H
  go_enter Try.func62, Try.ntmps62
  go_upto_region 1 with (fail)
  repeat (go_quiet (fail); go_upto_region 1 with (fail))
  go_cut [14] (fun v14 wc => ∃ (kq : Nat) (x14_2 : Bool), v14 = .bool x14_2 ∧ Aside0 (server_tokensCanMatch.j0 kq a0 a1 x14_2 = some r) ∧ Aside0 (kq ≤ k) ∧ Drawn0 w wc)
  case first =>
    have H := HC3.out
    clear HC3
    by_cases c4 : (a0.size : Int) = 0
    · rw [if_pos c4] at H
      have c4b0 : ((a0.size : Int) == 0) = true := beq_iff_eq.mpr c4
      have c4b1 : ((a0.size : Int) != 0) = false := bne_eq_false_iff_eq.mpr c4
      clear c4
      (first | rw [c4b0] | (simp only [i64_w, i32_w]; rw [c4b0]) | skip)
      have H' := Aside0.mk H
      clear H
      go_wp2
      repeat (go_quiet (fail); try go_wp2)
      go_meet
      case rel => exact ⟨_, (true), (by first | rfl | (simp; done) | (simp [*]; done)), H', ⟨by first | omega | exact Nat.le_refl _⟩, by repeat (first | exact Drawn0.refl _ | apply Drawn0.step)⟩
    · rw [if_neg c4] at H
      have c4b0 : ((a0.size : Int) == 0) = false := beq_eq_false_iff_ne.mpr c4
      have c4b1 : ((a0.size : Int) != 0) = true := bne_iff_ne.mpr c4
      (first | rw [c4b0] | (simp only [i64_w, i32_w]; rw [c4b0]) | skip)
      have H' := Aside0.mk H
      clear H
      go_wp2
      repeat (go_quiet (fail); try go_wp2)
      go_meet
      case rel => exact ⟨_, (((a1.size : Int) == 0)), (by first | rfl | (simp; done) | (simp [*]; done)), H', ⟨by first | omega | exact Nat.le_refl _⟩, by repeat (first | exact Drawn0.refl _ | apply Drawn0.step)⟩
  case rest =>
    clear HC3
    try clear p2
    try clear c4
    try clear c4b0
    try clear c4b1
    obtain ⟨kq, x14_2, rfl, HA, HJ2, ⟨mc2, rfl⟩⟩ := hcut
    cases kq with
    | zero => exact absurd HA.out (by simp [server_tokensCanMatch.j0])
    | succ kj2 =>
      have H := HA.out
      clear HA
      simp only [server_tokensCanMatch.j0] at H
      by_cases c5 : x14_2 = true
      · subst c5
        have H1 : (some false) = some r := by rw [if_pos rfl] at H; exact H
        clear H
        have H := H1
        clear H1
        obtain rfl := Option.some.inj H
        go_wp2
        repeat (go_quiet (fail); try go_wp2)
        go_ret
        exact ⟨by first | rfl | (simp; done) | (simp [*]; done), by repeat (first | exact Drawn0.refl _ | apply Drawn0.step)⟩
      · replace c5 := Bool.eq_false_iff.mpr c5
        subst c5
        have H1 : (if 0 < (a0.size : Int) then (if 0 < (a1.size : Int) then (if (bt a0 0) = 42 then (some true) else (if (bt a1 0) = 42 then (some true) else (if (bt a0 0) = 62 then (some true) else (if (bt a1 0) = 62 then (some true) else (some (a0.toList == a1.toList)))))) else (none)) else (none)) = some r := by rw [if_neg (show ¬ (false = true) by decide)] at H; exact H
        clear H
        have H := H1
        clear H1
        by_cases c6 : 0 < (a0.size : Int)
        · rw [if_pos c6] at H
          have c6b0 : decide (0 < (a0.size : Int)) = true := decide_eq_true c6
          have c6b1 : decide (0 < a0.size) = true := decide_eq_true (by omega)
          clear c6
          by_cases c8 : 0 < (a1.size : Int)
          · rw [if_pos c8] at H
            have c8b0 : decide (0 < (a1.size : Int)) = true := decide_eq_true c8
            have c8b1 : decide (0 < a1.size) = true := decide_eq_true (by omega)
            clear c8
            by_cases c10 : (bt a0 0) = 42
            · rw [if_pos c10] at H
              have c10b0 : ((bt a0 0) == 42) = true := beq_iff_eq.mpr c10
              have c10b1 : ((bt a0 0) != 42) = false := bne_eq_false_iff_eq.mpr c10
              clear c10
              obtain rfl := Option.some.inj H
              have p7 : 0 ≤ (0 : Int) := (by omega)
              have q7 : 0 < a0.size := (by have : (0 : Int) < (a0.size : Int) := of_decide_eq_true (by first | (with_reducible assumption) | assumption); omega)
              have hx7 : ∀ h : 0 < a0.size, ((a0[0]'h).toNat : Int) = bt a0 0 := bt_at a0 0
              clear p7
              have qi7 : (0 < (a0.size : Int)) = True := eq_true (of_decide_eq_true (by first | (with_reducible assumption) | assumption))
              replace q7 := eq_true q7
              have p9 : 0 ≤ (0 : Int) := (by omega)
              have q9 : 0 < a1.size := (by have : (0 : Int) < (a1.size : Int) := of_decide_eq_true (by first | (with_reducible assumption) | assumption); omega)
              have hx9 : ∀ h : 0 < a1.size, ((a1[0]'h).toNat : Int) = bt a1 0 := bt_at a1 0
              clear p9
              have qi9 : (0 < (a1.size : Int)) = True := eq_true (of_decide_eq_true (by first | (with_reducible assumption) | assumption))
              replace q9 := eq_true q9
              go_wp2
              repeat (go_quiet (fail); try go_wp2)
              go_ret
              exact ⟨by first | rfl | (simp; done) | (simp [*]; done), by repeat (first | exact Drawn0.refl _ | apply Drawn0.step)⟩
            · rw [if_neg c10] at H
              have c10b0 : ((bt a0 0) == 42) = false := beq_eq_false_iff_ne.mpr c10
              have c10b1 : ((bt a0 0) != 42) = true := bne_iff_ne.mpr c10
              by_cases c11 : (bt a1 0) = 42
              · rw [if_pos c11] at H
                have c11b0 : ((bt a1 0) == 42) = true := beq_iff_eq.mpr c11
                have c11b1 : ((bt a1 0) != 42) = false := bne_eq_false_iff_eq.mpr c11
                clear c11
                obtain rfl := Option.some.inj H
                have p7 : 0 ≤ (0 : Int) := (by omega)
                have q7 : 0 < a0.size := (by have : (0 : Int) < (a0.size : Int) := of_decide_eq_true (by first | (with_reducible assumption) | assumption); omega)
                have hx7 : ∀ h : 0 < a0.size, ((a0[0]'h).toNat : Int) = bt a0 0 := bt_at a0 0
                clear p7
                have qi7 : (0 < (a0.size : Int)) = True := eq_true (of_decide_eq_true (by first | (with_reducible assumption) | assumption))
                replace q7 := eq_true q7
                have p9 : 0 ≤ (0 : Int) := (by omega)
                have q9 : 0 < a1.size := (by have : (0 : Int) < (a1.size : Int) := of_decide_eq_true (by first | (with_reducible assumption) | assumption); omega)
                have hx9 : ∀ h : 0 < a1.size, ((a1[0]'h).toNat : Int) = bt a1 0 := bt_at a1 0
                clear p9
                have qi9 : (0 < (a1.size : Int)) = True := eq_true (of_decide_eq_true (by first | (with_reducible assumption) | assumption))
                replace q9 := eq_true q9
                go_wp2
                repeat (go_quiet (fail); try go_wp2)
                go_ret
                exact ⟨by first | rfl | (simp; done) | (simp [*]; done), by repeat (first | exact Drawn0.refl _ | apply Drawn0.step)⟩
              · rw [if_neg c11] at H
                have c11b0 : ((bt a1 0) == 42) = false := beq_eq_false_iff_ne.mpr c11
                have c11b1 : ((bt a1 0) != 42) = true := bne_iff_ne.mpr c11
                by_cases c12 : (bt a0 0) = 62
                · rw [if_pos c12] at H
                  have c12b0 : ((bt a0 0) == 62) = true := beq_iff_eq.mpr c12
                  have c12b1 : ((bt a0 0) != 62) = false := bne_eq_false_iff_eq.mpr c12
                  clear c12
                  obtain rfl := Option.some.inj H
                  have p7 : 0 ≤ (0 : Int) := (by omega)
                  have q7 : 0 < a0.size := (by have : (0 : Int) < (a0.size : Int) := of_decide_eq_true (by first | (with_reducible assumption) | assumption); omega)
                  have hx7 : ∀ h : 0 < a0.size, ((a0[0]'h).toNat : Int) = bt a0 0 := bt_at a0 0
                  clear p7
                  have qi7 : (0 < (a0.size : Int)) = True := eq_true (of_decide_eq_true (by first | (with_reducible assumption) | assumption))
                  replace q7 := eq_true q7
                  have p9 : 0 ≤ (0 : Int) := (by omega)
                  have q9 : 0 < a1.size := (by have : (0 : Int) < (a1.size : Int) := of_decide_eq_true (by first | (with_reducible assumption) | assumption); omega)
                  have hx9 : ∀ h : 0 < a1.size, ((a1[0]'h).toNat : Int) = bt a1 0 := bt_at a1 0
                  clear p9
                  have qi9 : (0 < (a1.size : Int)) = True := eq_true (of_decide_eq_true (by first | (with_reducible assumption) | assumption))
                  replace q9 := eq_true q9
                  go_wp2
                  repeat (go_quiet (fail); try go_wp2)
                  go_ret
                  exact ⟨by first | rfl | (simp; done) | (simp [*]; done), by repeat (first | exact Drawn0.refl _ | apply Drawn0.step)⟩
                · rw [if_neg c12] at H
                  have c12b0 : ((bt a0 0) == 62) = false := beq_eq_false_iff_ne.mpr c12
                  have c12b1 : ((bt a0 0) != 62) = true := bne_iff_ne.mpr c12
                  by_cases c13 : (bt a1 0) = 62
                  · rw [if_pos c13] at H
                    have c13b0 : ((bt a1 0) == 62) = true := beq_iff_eq.mpr c13
                    have c13b1 : ((bt a1 0) != 62) = false := bne_eq_false_iff_eq.mpr c13
                    clear c13
                    obtain rfl := Option.some.inj H
                    have p7 : 0 ≤ (0 : Int) := (by omega)
                    have q7 : 0 < a0.size := (by have : (0 : Int) < (a0.size : Int) := of_decide_eq_true (by first | (with_reducible assumption) | assumption); omega)
                    have hx7 : ∀ h : 0 < a0.size, ((a0[0]'h).toNat : Int) = bt a0 0 := bt_at a0 0
                    clear p7
                    have qi7 : (0 < (a0.size : Int)) = True := eq_true (of_decide_eq_true (by first | (with_reducible assumption) | assumption))
                    replace q7 := eq_true q7
                    have p9 : 0 ≤ (0 : Int) := (by omega)
                    have q9 : 0 < a1.size := (by have : (0 : Int) < (a1.size : Int) := of_decide_eq_true (by first | (with_reducible assumption) | assumption); omega)
                    have hx9 : ∀ h : 0 < a1.size, ((a1[0]'h).toNat : Int) = bt a1 0 := bt_at a1 0
                    clear p9
                    have qi9 : (0 < (a1.size : Int)) = True := eq_true (of_decide_eq_true (by first | (with_reducible assumption) | assumption))
                    replace q9 := eq_true q9
                    go_wp2
                    repeat (go_quiet (fail); try go_wp2)
                    go_ret
                    exact ⟨by first | rfl | (simp; done) | (simp [*]; done), by repeat (first | exact Drawn0.refl _ | apply Drawn0.step)⟩
                  · rw [if_neg c13] at H
                    have c13b0 : ((bt a1 0) == 62) = false := beq_eq_false_iff_ne.mpr c13
                    have c13b1 : ((bt a1 0) != 62) = true := bne_iff_ne.mpr c13
                    obtain rfl := Option.some.inj H
                    have p7 : 0 ≤ (0 : Int) := (by omega)
                    have q7 : 0 < a0.size := (by have : (0 : Int) < (a0.size : Int) := of_decide_eq_true (by first | (with_reducible assumption) | assumption); omega)
                    have hx7 : ∀ h : 0 < a0.size, ((a0[0]'h).toNat : Int) = bt a0 0 := bt_at a0 0
                    clear p7
                    have qi7 : (0 < (a0.size : Int)) = True := eq_true (of_decide_eq_true (by first | (with_reducible assumption) | assumption))
                    replace q7 := eq_true q7
                    have p9 : 0 ≤ (0 : Int) := (by omega)
                    have q9 : 0 < a1.size := (by have : (0 : Int) < (a1.size : Int) := of_decide_eq_true (by first | (with_reducible assumption) | assumption); omega)
                    have hx9 : ∀ h : 0 < a1.size, ((a1[0]'h).toNat : Int) = bt a1 0 := bt_at a1 0
                    clear p9
                    have qi9 : (0 < (a1.size : Int)) = True := eq_true (of_decide_eq_true (by first | (with_reducible assumption) | assumption))
                    replace q9 := eq_true q9
                    go_wp2
                    repeat (go_quiet (fail); try go_wp2)
                    go_ret
                    exact ⟨by first | rfl | (simp; done) | (simp [*]; done), by repeat (first | exact Drawn0.refl _ | apply Drawn0.step)⟩
          · rw [if_neg c8] at H
            exact absurd H (by simp)
        · rw [if_neg c6] at H
          exact absurd H (by simp)

/-! ### server_SubjectsCollide: function 47 -/
def TokPost2 (w0 wE : World) (vE : Value) (s : ByteArray) (e : Ending) (w' : World) : Prop :=
  ∃ v, e = .returned v ∧ Road.AnyRow w' w0.heap.size 1 v (Road.tokB s).length ((Road.tokB s).map Value.string) ∧ Below w0.heap.size w0 w' ∧ Road.Mine wE vE v w'
set_option maxHeartbeats 8000000 in
set_option maxRecDepth 100000 in
/-- The parts of a text, put behind nothing, into a row of whatever make. -/
theorem server_tokenizeSubjectIntoSlice.any2 (v0 : Value) (a1 : ByteArray) (w0 w : World) (hs : a1.size ≤ 2147483647) (hB : Below w0.heap.size w0 w) (hr : Road.AnyRow w w0.heap.size 1 v0 0 []) :
    Calls Try.prog 59 #[v0, .string a1] w (TokPost2 w0 w v0 a1) := by
  have HS := Aside0.mk hs
  have HM := Aside0.mk (Road.Mine.start w v0)
  clear hs
  have HB := Aside0.mk hB
  clear hB
  have HR := Aside0.mk (show Road.AnyRow w w0.heap.size 1 v0 ([] : List ByteArray).length (([] : List ByteArray).map Value.string) from hr)
  clear hr
  go_enter Try.func59, Try.ntmps59
  go_wp2
  go_loopw [0, 5, 6] (fun v v5 v6 w' => ∃ (out : List ByteArray) (x5 x6 : Int), v5 = .int .i64 x5 ∧ v6 = .int .i64 x6 ∧ Aside0 (Road.TokAt a1 out x5 x6) ∧ Aside0 (Road.AnyRow w' w0.heap.size 1 v out.length (out.map Value.string)) ∧ Aside0 (Below w0.heap.size w0 w') ∧ Aside0 (Road.Mine w v0 v w')) (fun _ _ v6 _ => a1.size - (intOf v6).toNat)
  case atStart => exact ⟨[], 0, 0, rfl, rfl, ⟨Road.TokAt.start a1⟩, HR, HB, HM⟩
  case round =>
    clear HR HB HM
    obtain ⟨out, x5, x6, rfl, rfl, HT, HR, HB, HM⟩ := hrel
    have z1 := HT.out.1
    have z2 := HT.out.2.1
    have z3 := HT.out.2.2.1
    have z4 : out.length ≤ 2147483647 := by have := HT.out.2.2.2.1; have := HS.out; omega
    have Z4 := Aside0.mk z4
    clear z4
    by_cases c3 : x6 < (a1.size : Int)
    · have c3b0 : decide (x6 < (a1.size : Int)) = true := decide_eq_true c3
      have hm : Aside0 (wrap64 (x6 + 1) = x6 + 1 ∧ 0 ≤ x6) := ⟨by have := HS.out; unfold wrap64; omega⟩
      have p5 : 0 ≤ (x6 : Int) := by omega
      by_cases c6 : (bt a1 x6) = 46
      · have c6b0 : ((bt a1 x6) == 46) = true := beq_iff_eq.mpr c6
        have c6b1 : ((bt a1 x6) != 46) = false := bne_eq_false_iff_eq.mpr c6
        have HT2 := Aside0.mk (Road.TokAt.dot HT.out c3 HS.out c6)
        clear c6 HT
        have HC := Aside0.mk c3
        have c7b0 := eq_true (show 0 ≤ x5 by omega)
        have c7b1 : decide (0 ≤ x5) = true := decide_eq_true (by omega)
        have c8b0 := eq_true z2
        have c8b1 : decide (x5 ≤ x6) = true := decide_eq_true z2
        have c9b0 := eq_true z3
        have c9b1 : decide (x6 ≤ (a1.size : Int)) = true := decide_eq_true z3
        have q5 := eq_true c3
        have hx5 := bt_at a1 x6
        replace p5 := eq_true p5
        clear z1 z2 z3 c3
        go_wp2_with ((with_reducible refine gate_builtin (b := .append) (xs := #[.tmp 17, .tmp 22]) rfl ?_); at_builtin; refine Road.AnyRow.append2 (w0 := w0) rfl (.tmp 17) (.tmp 22) 38 9 (.string ⟨#[]⟩) 1 16 rfl Try.underlying38 info_str rfl (by decide) u0 out.length (out.map Value.string) [.string (a1.extract (x5 : Int).toNat (x6 : Int).toNat)] rfl rfl rfl ?h1 ?h2 ?h3 ?h4 ?h5 w v0 ?h6 ?_; (case h1 => intro u hu; rw [List.mem_singleton.1 hu]; rfl); (case h2 => have := Z4.out; simp only [maxLen]; omega); (case h3 => have := Z4.out; omega); (case h4 => exact HR.out); (case h5 => exact HB.out); (case h6 => exact HM.out); intro v126 w11 ho hb hmm; have n1_ := Aside0.mk ho; have n2_ := Aside0.mk hb; have n3_ := Aside0.mk hmm; clear HB HR HM ho hb hmm)
        go_roundw
        case rel => exact ⟨out ++ [a1.extract (x5 : Int).toNat (x6 : Int).toNat], _, _, rfl, rfl, HT2, ⟨by have := n1_.out; simpa using this⟩, n2_, n3_⟩
        case measure => simp only [intOf]; have := hm.out; have := HC.out; omega
      · have c6b0 : ((bt a1 x6) == 46) = false := beq_eq_false_iff_ne.mpr c6
        have c6b1 : ((bt a1 x6) != 46) = true := bne_iff_ne.mpr c6
        have HT2 := Aside0.mk (Road.TokAt.skip HT.out c3 HS.out c6)
        clear c6 HT
        have HC := Aside0.mk c3
        have q5 := eq_true c3
        have hx5 := bt_at a1 x6
        replace p5 := eq_true p5
        clear z1 z2 z3 c3
        go_wp2
        go_roundw
        case rel => exact ⟨out, _, _, rfl, rfl, HT2, HR, HB, HM⟩
        case measure => simp only [intOf]; have := hm.out; have := HC.out; omega
    · have c3b0 : decide (x6 < (a1.size : Int)) = false := decide_eq_false c3
      have HT2 := Aside0.mk (Road.TokAt.last HT.out c3)
      clear HT
      have c12b0 := eq_true (show 0 ≤ x5 by omega)
      have c12b1 : decide (0 ≤ x5) = true := decide_eq_true (by omega)
      have c13b0 := eq_true (show x5 ≤ (a1.size : Int) by omega)
      have c13b1 : decide (x5 ≤ (a1.size : Int)) = true := decide_eq_true (by omega)
      clear z1 z2 z3 c3
      go_wp2_with ((with_reducible refine gate_builtin (b := .append) (xs := #[.tmp 26, .tmp 30]) rfl ?_); at_builtin; refine Road.AnyRow.append2 (w0 := w0) rfl (.tmp 26) (.tmp 30) 38 9 (.string ⟨#[]⟩) 1 16 rfl Try.underlying38 info_str rfl (by decide) u0 out.length (out.map Value.string) [.string (a1.extract (x5 : Int).toNat a1.size)] rfl rfl rfl ?h1 ?h2 ?h3 ?h4 ?h5 w v0 ?h6 ?_; (case h1 => intro u hu; rw [List.mem_singleton.1 hu]; rfl); (case h2 => have := Z4.out; simp only [maxLen]; omega); (case h3 => have := Z4.out; omega); (case h4 => exact HR.out); (case h5 => exact HB.out); (case h6 => exact HM.out); intro v126 w11 ho hb hmm; have n1_ := Aside0.mk ho; have n2_ := Aside0.mk hb; have n3_ := Aside0.mk hmm; clear HB HR HM ho hb hmm)
      go_ret
      refine ⟨_, rfl, ?_, n2_.out, n3_.out⟩
      rw [← HT2.out]
      have := n1_.out
      simpa using this

def server_SubjectsCollide.canAll (k : Nat) : List ByteArray → List ByteArray → Option Bool
  | [], _ => some true
  | _ :: _, [] => some true
  | t :: ts, u :: us => (server_tokensCanMatch.f k t u).bind fun c => if c = true then server_SubjectsCollide.canAll k ts us else some false
def server_SubjectsCollide.both (k : Nat) (T1 T2 : List ByteArray) (f1 f2 : Bool) : Option Bool :=
  if f1 = false ∧ f2 = false ∧ T1.length ≠ T2.length then some false
  else if (T1.length < T2.length ∧ f1 = false) ∨ (T2.length < T1.length ∧ f2 = false) then some false else server_SubjectsCollide.canAll k T1 T2
def server_SubjectsCollide.rest (k : Nat) (T1 T2 : List ByteArray) (l1 l2 f1 f2 : Bool) : Option Bool :=
  if l1 = true then (if l2 = true then some false else server_isSubsetMatchTokenized.f k T1 T2)
  else if l2 = true then server_isSubsetMatchTokenized.f k T2 T1 else server_SubjectsCollide.both k T1 T2 f1 f2
def server_SubjectsCollide.f (k : Nat) (a0 a1 : ByteArray) : Option Bool :=
  if a0.size ≤ 2147483647 ∧ a1.size ≤ 2147483647 then
    (if a0.toList = a1.toList then some true
     else (server_analyzeTokens.f k (Road.tokB a0)).bind fun x => (server_analyzeTokens.f k (Road.tokB a1)).bind fun y => server_SubjectsCollide.rest k (Road.tokB a0) (Road.tokB a1) (!(x.1 || x.2)) (!(y.1 || y.2)) x.2 y.2)
  else none
theorem server_SubjectsCollide.canAll_mono : ∀ a0 a1 k, LeO (server_SubjectsCollide.canAll k a0 a1) (server_SubjectsCollide.canAll (k + 1) a0 a1)
  | [], _, _ => LeO.refl _
  | _ :: _, [], _ => LeO.refl _
  | t :: ts, u :: us, k => LeO.bind (server_tokensCanMatch.mono _ _ _) fun _ => LeO.ite (server_SubjectsCollide.canAll_mono ts us k) (LeO.refl _)
theorem server_SubjectsCollide.mono : ∀ a0 a1 k, LeO (server_SubjectsCollide.f k a0 a1) (server_SubjectsCollide.f (k + 1) a0 a1) := by
  intro a0 a1 k
  unfold server_SubjectsCollide.f
  refine LeO.ite (LeO.ite (LeO.refl _) (LeO.bind (server_analyzeTokens.mono _ _) fun x => LeO.bind (server_analyzeTokens.mono _ _) fun y => ?_)) (LeO.none _)
  unfold server_SubjectsCollide.rest server_SubjectsCollide.both
  exact LeO.ite (LeO.ite (LeO.refl _) (server_isSubsetMatchTokenized.mono _ _ _)) (LeO.ite (server_isSubsetMatchTokenized.mono _ _ _) (LeO.ite (LeO.refl _) (LeO.ite (LeO.refl _) (server_SubjectsCollide.canAll_mono _ _ _))))
theorem zero_strs32 : ∀ w : World, (Instr.build 47 #[]).run Try.prog w = .ok (.agg Road.strs32) w := fun w => by kernel_rfl
theorem new_strs32 : ∀ w : World, (Instr.alloc 47 true (.tuple #[])).run Try.prog w = .ok (.pointer (some ⟨w.heap.size, 0, none⟩)) (w.alloc (.cells Road.strs32 47)) := fun w => by kernel_rfl
theorem info_strs32 : (Try.prog.info? 47).map (·.size) = some Road.strs32.size := by kernel_rfl
set_option maxHeartbeats 8000000 in
set_option maxRecDepth 100000 in
theorem server_SubjectsCollide.calls (k : Nat) (a0 a1 : ByteArray) (r : Bool) (w : World) (h : server_SubjectsCollide.f k a0 a1 = some r) :
    Calls Try.prog 47 #[.string a0, .string a1] w fun e w' => e = .returned (.bool r) ∧ Below w.heap.size w w' := by
  unfold server_SubjectsCollide.f at h
  split at h
  · rename_i hs
    have HS := Aside0.mk hs
    clear hs
    split at h
    · rename_i c0
      obtain rfl := Option.some.inj h
      have c0b0 : (a0.toList == a1.toList) = true := beq_iff_eq.mpr c0
      clear c0 h
      go_enter Try.func47, Try.ntmps47
      go_wp2
      go_ret
      exact ⟨rfl, Below.refl _ _⟩
    · rename_i c0
      have c0b0 : (a0.toList == a1.toList) = false := beq_eq_false_iff_ne.mpr c0
      clear c0
      obtain ⟨⟨p1, f1⟩, ha1, h⟩ := Option.bind_eq_some_iff.1 h
      obtain ⟨⟨p2, f2⟩, ha2, h⟩ := Option.bind_eq_some_iff.1 h
      obtain ⟨T1, hT1⟩ : ∃ T, T = Road.tokB a0 := ⟨_, rfl⟩
      obtain ⟨T2, hT2⟩ : ∃ T, T = Road.tokB a1 := ⟨_, rfl⟩
      rw [← hT1] at ha1 h
      rw [← hT2] at ha2 h
      have HL1 : Aside0 (T1.length ≤ 2147483648) := ⟨by rw [hT1, Road.tokB_length]; have := Road.toks_length_le (Road.bl a0); have := Road.bl_len a0; have := HS.out; omega⟩
      have HL2 : Aside0 (T2.length ≤ 2147483648) := ⟨by rw [hT2, Road.tokB_length]; have := Road.toks_length_le (Road.bl a1); have := Road.bl_len a1; have := HS.out; omega⟩
      have HT1 := Aside0.mk hT1
      have HT2 := Aside0.mk hT2
      have HA1 := Aside0.mk ha1
      have HA2 := Aside0.mk ha2
      have HH := Aside0.mk h
      clear hT1 hT2 ha1 ha2 h
      go_enter Try.func47, Try.ntmps47
      go_wp2_with (refine Road.wpList_zeroVar2 47 24 25 5 6 Road.strs32 rfl rfl rfl rfl rfl rfl rfl rfl rfl rfl rfl rfl rfl rfl rfl rfl rfl rfl zero_strs32 new_strs32 info_strs32 Road.strs32_one rfl rfl rfl rfl (by decide) ?_)
      have hrow := (Road.strs32_row w w.heap.size 47 (Nat.le_refl _)).alloc (.cells Road.strs32 47)
      refine (server_tokenizeSubjectIntoSlice.any2 _ a0 w _ HS.out.1 (below_alloc (below_alloc (Below.refl _ _) _) _) hrow).mono ?_
      rintro e w3 ⟨v1, rfl, ho1, hb1, hm1⟩
      have hsz2 : ((w.alloc (.cells Road.strs32 47)).alloc (.cells Road.strs32 47)).heap.size = w.heap.size + 2 := by
        show ((w.heap.push _).push _).size = _
        simp
      have hrow2 : Road.AnyRow w3 w.heap.size 1 (.slice (some ⟨w.heap.size + 1, 0, none⟩) 0 32) 0 [] := by
        refine Road.AnyRow.start (cur := Road.strs32) (T := 47) (by omega) ?_ (by unfold maxLen; omega) rfl
        rw [hm1.2.2 (w.heap.size + 1) (by omega) (by simp [Value.ownBlock])]
        have e1 : (w.alloc (.cells Road.strs32 47)).heap.size = w.heap.size + 1 := Array.size_push ..
        rw [← e1]
        exact heap_alloc_new (w.alloc (.cells Road.strs32 47)) (.cells Road.strs32 47)
      have HM1 := Aside0.mk (show ∀ kk, v1.ownBlock = some kk → kk ≠ w.heap.size + 1 from by
        intro kk hk
        rcases hm1.2.1 with g | ⟨b, g, hb⟩
        · rw [g] at hk
          simp [Value.ownBlock] at hk
          omega
        · rw [g] at hk
          injection hk with hk
          omega)
      have HO1 := Aside0.mk ho1
      have HB1 := Aside0.mk hb1
      have HR2 := Aside0.mk hrow2
      clear ho1 hb1 hm1 hrow hrow2 hsz2
      go_wp2_with fail
      refine (server_tokenizeSubjectIntoSlice.any2 _ a1 w _ HS.out.2 HB1.out HR2.out).mono ?_
      rintro e w4 ⟨v2, rfl, ho2, hb2, hm2⟩
      have ho1 : Road.AnyRow w4 w.heap.size 1 v1 T1.length (T1.map Value.string) := by
        rw [HT1.out]
        refine HO1.out.move fun kk hk => hm2.2.2 kk (HO1.out.base kk hk).2 ?_
        intro g
        simp [Value.ownBlock] at g
        exact HM1.out kk hk g.symm
      rw [← HT2.out] at ho2
      obtain ⟨A1, c1, rfl, h1, h2⟩ := ho1.reads
      obtain ⟨A2, c2, rfl, h3, h4⟩ := ho2.reads
      have HB := Aside0.mk hb2
      have H1 := Aside0.mk h1
      have H2 := Aside0.mk h2
      have H3 := Aside0.mk h3
      have H4 := Aside0.mk h4
      clear hb2 h1 h2 h3 h4 ho1 ho2 hm2 HM1 HO1 HB1 HR2 HT1 HT2
      go_wp2_with fail
      refine (server_analyzeTokens.calls k A1 c1 T1 p1 f1 _ H2.out H1.out HA1.out).mono ?_
      rintro e w5 ⟨rfl, ⟨nd, rfl⟩⟩
      go_wp2_with fail
      refine (server_analyzeTokens.calls k A2 c2 T2 p2 f2 _ (Kd.C_drewN H4.out _) H3.out HA2.out).mono ?_
      rintro e w6 ⟨rfl, ⟨nd2, rfl⟩⟩
      have HB2 := Aside0.mk (pw_below_drewN (pw_below_drewN HB.out nd) nd2)
      have H22 := Aside0.mk (Kd.C_drewN (Kd.C_drewN H2.out nd) nd2)
      have H42 := Aside0.mk (Kd.C_drewN (Kd.C_drewN H4.out nd) nd2)
      clear HB H2 H4 HA1 HA2
      generalize (w4.drewN nd).drewN nd2 = W at HB2 H22 H42 ⊢
      go_upto_region 8 with fail
      go_cut [13, 14] from 13 (fun v13 v14 wx => v13 = .bool (!(p1 || f1)) ∧ v14 = .bool (!(p2 || f2)) ∧ wx = W)
      case first =>
        cases p1 <;> cases p2 <;> (go_wp2_with fail; go_meet; exact ⟨rfl, rfl, rfl⟩)
      case rest =>
        obtain ⟨rfl, rfl, rfl⟩ := hcut
        generalize (!(p1 || f1)) = l1 at HH ⊢
        generalize (!(p2 || f2)) = l2 at HH ⊢
        cases l1 with
        | true =>
          cases l2 with
          | true =>
            have hr := HH.out
            simp only [server_SubjectsCollide.rest, if_true, Option.some.injEq] at hr
            subst hr
            go_wp2_with fail
            go_ret
            exact ⟨rfl, HB2.out⟩
          | false =>
            have hr := HH.out
            simp only [server_SubjectsCollide.rest, if_true, if_false, Bool.false_eq_true] at hr
            go_wp2_with fail
            refine (server_isSubsetMatchTokenized.calls k A1 c1 T1 A2 c2 T2 r _ H22.out H1.out H42.out H3.out hr).mono ?_
            rintro e w7 ⟨rfl, ⟨nd3, rfl⟩⟩
            go_wp2_with fail
            go_ret
            exact ⟨rfl, pw_below_drewN HB2.out _⟩
        | false =>
          cases l2 with
          | true =>
            have hr := HH.out
            simp only [server_SubjectsCollide.rest, if_true, if_false, Bool.false_eq_true] at hr
            go_wp2_with fail
            refine (server_isSubsetMatchTokenized.calls k A2 c2 T2 A1 c1 T1 r _ H42.out H3.out H22.out H1.out hr).mono ?_
            rintro e w7 ⟨rfl, ⟨nd3, rfl⟩⟩
            go_wp2_with fail
            go_ret
            exact ⟨rfl, pw_below_drewN HB2.out _⟩
          | false =>
            have hr := HH.out
            simp only [server_SubjectsCollide.rest, if_false, Bool.false_eq_true, server_SubjectsCollide.both] at hr
            have HX := Aside0.mk hr
            clear hr HH
            go_upto_region 15 with fail
            go_cut [87] from 75 (fun v87 wx => v87 = .bool (!f1 && !f2 && ((T1.length : Int) != (T2.length : Int))) ∧ wx = wc)
            case first =>
              cases f1 <;> cases f2 <;> (go_wp2_with fail; go_meet; exact ⟨rfl, rfl⟩)
            case rest =>
              obtain ⟨rfl, rfl⟩ := hcut
              by_cases e15 : (!f1 && !f2 && ((T1.length : Int) != (T2.length : Int))) = true
              · have hr := HX.out
                have e16 : f1 = false ∧ f2 = false ∧ T1.length ≠ T2.length := by
                  simp only [Bool.and_eq_true, Bool.not_eq_true', bne_iff_ne, ne_eq, Int.natCast_inj] at e15
                  exact ⟨e15.1.1, e15.1.2, e15.2⟩
                rw [if_pos e16] at hr
                obtain rfl := Option.some.inj hr
                rw [e15]
                go_wp2_with fail
                go_ret
                exact ⟨rfl, HB2.out⟩
              · replace e15 := Bool.eq_false_iff.2 e15
                have hr := HX.out
                have e16 : ¬ (f1 = false ∧ f2 = false ∧ T1.length ≠ T2.length) := by
                  rintro ⟨rfl, rfl, g⟩
                  simp at e15
                  omega
                rw [if_neg e16] at hr
                rw [e15]
                have HX2 := Aside0.mk hr
                clear hr HX e15 e16
                go_upto_if 94 with fail
                go_cut [110] from 95 (fun v110 wx => Aside0 (server_SubjectsCollide.canAll k T1 T2 = some r) ∧ wx = wc)
                case first =>
                  by_cases e0 : T1.length = T2.length
                  · have e1 : ((T1.length : Int) != (T2.length : Int)) = false := by rw [e0]; simp
                    have hr := HX2.out
                    rw [if_neg (by omega)] at hr
                    have HY := Aside0.mk hr
                    clear e0 hr HX2
                    go_wp2_with fail
                    go_meet
                    exact ⟨HY, rfl⟩
                  · have e1 : ((T1.length : Int) != (T2.length : Int)) = true := bne_iff_ne.mpr (by omega)
                    by_cases e2 : T1.length < T2.length
                    · have e3 : decide ((T1.length : Int) < (T2.length : Int)) = true := decide_eq_true (by omega)
                      have e5 := eq_true e2
                      have e6 : (T2.length < T1.length) = False := eq_false (by omega)
                      have e4 : decide ((T2.length : Int) < (T1.length : Int)) = false := decide_eq_false (by omega)
                      have hr := HX2.out
                      cases f1 with
                      | true =>
                        rw [if_neg (by simp; omega)] at hr
                        have HY := Aside0.mk hr
                        clear e0 e2 hr HX2
                        go_wp2_with fail
                        go_meet
                        exact ⟨HY, rfl⟩
                      | false =>
                        rw [if_pos (Or.inl ⟨e2, rfl⟩)] at hr
                        obtain rfl := Option.some.inj hr
                        clear e0 e2 hr HX2
                        go_wp2_with fail
                        go_ret
                        exact ⟨rfl, HB2.out⟩
                    · have e3 : decide ((T1.length : Int) < (T2.length : Int)) = false := decide_eq_false (by omega)
                      have e5 := eq_false e2
                      have e6 : (T2.length < T1.length) = True := eq_true (by omega)
                      have e4 : decide ((T2.length : Int) < (T1.length : Int)) = true := decide_eq_true (by omega)
                      have hr := HX2.out
                      cases f2 with
                      | true =>
                        rw [if_neg (by simp; omega)] at hr
                        have HY := Aside0.mk hr
                        clear e0 e2 hr HX2
                        go_wp2_with fail
                        go_meet
                        exact ⟨HY, rfl⟩
                      | false =>
                        rw [if_pos (Or.inr ⟨by omega, rfl⟩)] at hr
                        obtain rfl := Option.some.inj hr
                        clear e0 e2 hr HX2
                        go_wp2_with fail
                        go_ret
                        exact ⟨rfl, HB2.out⟩
                case rest =>
                  clear HX2
                  obtain ⟨HX, rfl⟩ := hcut
                  go_upto_if 116 with fail
                  go_cut [17] from 117 (fun v17 wx => v17 = .int .i64 ((min T1.length T2.length : Nat) : Int) ∧ wx = wc)
                  case first =>
                    by_cases e2 : T2.length < T1.length
                    · have e3 : decide ((T2.length : Int) < (T1.length : Int)) = true := decide_eq_true (by omega)
                      have e6 := eq_true e2
                      go_wp2_with fail
                      go_meet
                      exact ⟨by rw [show min T1.length T2.length = T2.length by omega], rfl⟩
                    · have e3 : decide ((T2.length : Int) < (T1.length : Int)) = false := decide_eq_false (by omega)
                      have e6 := eq_false e2
                      go_wp2_with fail
                      go_meet
                      exact ⟨by rw [show min T1.length T2.length = T1.length by omega], rfl⟩
                  case rest =>
                    obtain ⟨rfl, rfl⟩ := hcut
                    go_wp2_with fail
                    have HR := Aside0.mk (show ∃ m, m = min T1.length T2.length from ⟨_, rfl⟩)
                    go_loopw [18] (fun v18 w' => ∃ i : Nat, v18 = .int .i64 (i : Int) ∧ i ≤ min T1.length T2.length ∧ Aside0 (server_SubjectsCollide.canAll k (T1.drop i) (T2.drop i) = some r) ∧ Aside0 (Kd.C Kd.string w' A1 T1.length T1) ∧ Aside0 (Kd.C Kd.string w' A2 T2.length T2) ∧ Aside0 (Below w.heap.size w w')) (fun v18 _ => Road.leftOf (min T1.length T2.length) v18)
                    case atStart => exact ⟨0, rfl, Nat.zero_le _, HX, H22, H42, HB2⟩
                    case round =>
                      clear HX H22 H42 HB2
                      obtain ⟨i, rfl, hi, HX, H22, H42, HB2⟩ := hrel
                      by_cases hlt : i < min T1.length T2.length
                      · have ci : decide ((i : Int) < ((min T1.length T2.length : Nat) : Int)) = true := decide_eq_true (by omega)
                        have cn := eq_true hlt
                        have hi1 : i < T1.length := by omega
                        have hi2 : i < T2.length := by omega
                        have hw : wrap64 ((i : Int) + 1) = ((i + 1 : Nat) : Int) := by have := HL1.out; unfold wrap64; omega
                        have hx := HX.out
                        rw [List.drop_eq_getElem_cons hi1, List.drop_eq_getElem_cons hi2, server_SubjectsCollide.canAll] at hx
                        obtain ⟨c, hc, hx3⟩ := Option.bind_eq_some_iff.1 hx
                        obtain ⟨u1, hu1⟩ : ∃ u, u = rdOf ByteArray.empty T1 (i : Int) := ⟨_, rfl⟩
                        obtain ⟨u2, hu2⟩ : ∃ u, u = rdOf ByteArray.empty T2 (i : Int) := ⟨_, rfl⟩
                        have p1_ : 0 ≤ (i : Int) := by omega
                        have q1_ : (i : Int) < (T1.length : Int) := by omega
                        have q2_ : (i : Int) < (T2.length : Int) := by omega
                        obtain ⟨ad1, ee1, hx1⟩ := Kd.at_string H22.out (i : Int) p1_ q1_
                        obtain ⟨ad2, ee2, hx2⟩ := Kd.at_string H42.out (i : Int) p1_ q2_
                        cases ee1
                        cases ee2
                        rw [← hu1] at hx1
                        rw [← hu2] at hx2
                        rw [Road.rdOf_nat _ _ _ hi1] at hu1
                        rw [Road.rdOf_nat _ _ _ hi2] at hu2
                        replace hc : server_tokensCanMatch.f k u1 u2 = some c := by rw [hu1, hu2]; exact hc
                        rw [Int.toNat_natCast] at hx1 hx2
                        replace p1_ := eq_true p1_
                        replace q1_ := eq_true q1_
                        replace q2_ := eq_true q2_
                        have HW := Aside0.mk hw
                        have HLT := Aside0.mk hlt
                        have HXC := Aside0.mk hx3
                        have HC := Aside0.mk hc
                        clear hx hx3 HX
                        clear hu1 hu2 hw hlt hc hi
                        clear hi1 hi2
                        go_upto_region 27 with fail
                        go_quiet (fail)
                        go_wp2_with fail
                        refine (server_tokensCanMatch.calls k u1 u2 c _ HC.out).mono ?_
                        rintro e w7 ⟨rfl, ⟨nd3, rfl⟩⟩
                        have hxc := HXC.out
                        clear HXC
                        cases c with
                        | true =>
                          rw [if_pos rfl] at hxc
                          have HXC := Aside0.mk hxc
                          clear hxc
                          go_wp2_with fail
                          go_roundw
                          case rel => exact ⟨i + 1, by rw [HW.out], by have := HLT.out; omega, HXC, ⟨Kd.C_drewN H22.out _⟩, ⟨Kd.C_drewN H42.out _⟩, ⟨pw_below_drewN HB2.out _⟩⟩
                          case measure => rw [HW.out]; exact Road.leftOf_lt HLT.out
                        | false =>
                          rw [if_neg (by simp)] at hxc
                          obtain rfl := Option.some.inj hxc
                          clear hxc
                          go_wp2_with fail
                          go_ret
                          exact ⟨rfl, pw_below_drewN HB2.out _⟩
                      · have ci : decide ((i : Int) < ((min T1.length T2.length : Nat) : Int)) = false := decide_eq_false (by omega)
                        have hx := HX.out
                        have hr : some true = some r := by
                          rw [← hx]
                          by_cases g : T1.length ≤ T2.length
                          · rw [List.drop_eq_nil_of_le (show T1.length ≤ i by omega)]
                            rfl
                          · rw [List.drop_eq_nil_of_le (show T2.length ≤ i by omega)]
                            cases T1.drop i <;> rfl
                        obtain rfl := Option.some.inj hr
                        have cn := eq_false hlt
                        clear hx hr HX hi
                        go_wp2_with fail
                        go_ret
                        exact ⟨rfl, HB2.out⟩
  · exact absurd h (by simp)


/-! ### impl_Collide: function 25 -/
def impl_Collide.f (k : Nat) (a0 : ByteArray) (a1 : ByteArray) : Option (Bool) := (server_SubjectsCollide.f k a0 a1).bind fun t129 => (some t129)
theorem impl_Collide.mono : ∀ a0 a1 k, LeO (impl_Collide.f k a0 a1) (impl_Collide.f (k + 1) a0 a1) := by
  intro a0 a1 k
  unfold impl_Collide.f
  repeat' first
      | (with_reducible exact server_SubjectsCollide.mono _ _ _)
      | (with_reducible exact LeO.refl _)
      | (with_reducible exact LeO.none _)
      | (with_reducible refine LeO.ite ?_ ?_)
      | (with_reducible refine LeO.bind ?_ (fun _ => ?_))
      | exact server_SubjectsCollide.mono _ _ _
      | exact LeO.none _
      | refine LeO.ite ?_ ?_
      | refine LeO.bind ?_ (fun _ => ?_)
set_option maxHeartbeats 8000000 in
set_option maxRecDepth 100000 in
theorem impl_Collide.calls (k : Nat) (a0 : ByteArray) (a1 : ByteArray) (r : Bool) (w : World) (h : impl_Collide.f k a0 a1 = some r) :
    Calls Try.prog 25 #[.string a0, .string a1] w fun e w' => e = .returned (.bool r) ∧ Below w.heap.size w w' := by
  have HB := Aside0.mk (Below.refl w.heap.size w)
  have H : ((server_SubjectsCollide.f k a0 a1).bind fun t129 => (some t129)) = some r := h
  clear h
  replace H := Option.bind_eq_some_iff.mp H
  obtain ⟨t129, A30, H⟩ := H
  replace H : (some t129) = some r := H
  have A3 := Aside0.mk A30
  clear A30
  obtain rfl := Option.some.inj H
  go_enter Try.func25, Try.ntmps25
  go_wp2_with (first | ((with_reducible refine gate_callee (f := 47) rfl ?_); refine goesL_ (some 7) rfl rfl Try.func47 (by kernel_rfl) rfl #[.string a0, .string a1] rfl (by (try simp only [List.map_toArray, List.map_cons, List.map_nil]); first | done | rfl | (simp only [List.length_drop, List.length_take]; rfl)) ?_; (with_reducible refine (server_SubjectsCollide.calls k a0 a1 t129 _ A3.out).mono ?_); rintro e w4 ⟨rfl, hb⟩; refine ⟨_, rfl, ?_⟩; have n0_ := Aside0.mk (below_step (by repeat (first | (with_reducible first | exact HB.out | apply below_alloc | apply pw_below_drewN | apply below_drew1) | exact HB.out)) hb); clear HB; have HB := n0_; clear n0_; (try clear hb); (try clear hb2); (try clear hk); (try clear hi)))
  go_ret
  exact ⟨by first | rfl | (simp [errW_none, errW_some] <;> rfl) | (simp [*, errW_none, errW_some] <;> rfl), by repeat (first | (with_reducible first | exact HB.out | apply below_alloc | apply pw_below_drewN | apply below_drew1) | exact HB.out)⟩

end Go.Proofs.Ytaobajfdnidkfaa.PFnCollide
