/- WALKS: a copy masked; the law FnMaskParts. -/
import Derived.Test.YtchajidblfakiaaProg
import Derived.Below
import Derived.Deep.Draws
import Derived.Deep.AppendLies
import Derived.Maps.AppendAt
import Derived.OwnWalk
import Derived.Laws.BytesArg
import Derived.Laws.MakeOwn
import Derived.Laws.OwnMore
import Derived.Deep.OwnRows
import Derived.Tactics
import Derived.Lib.ConvBytes
import Derived.Laws.Slices
import Derived.WalkKit
import Derived.KernelRfl
import Derived.RowKit3
import Derived.Deep.LoopGhost
import Derived.Deep.QuietTactic
import Derived.BigQuiet
import Derived.WideLaws
import Derived.Deep.DeepCutAuto
import Derived.Deep.CutBlock
import Derived.Deep.RegionHeld3
import Derived.Laws.Rows
import Derived.Lib.AppendStr
import Derived.ArgAppend
import Derived.Laws.IdiomCopy
import Derived.OrdersHeld
import Derived.Laws.BitsLemmas
import Derived.RowKit
import Derived.Test.YtchajidblfakiaaWWords
import Derived.Test.YtchajidblfakiaaWLast
import Derived.Test.YtchajidblfakiaaWTab
import Derived.Test.YtchajidblfakiaaWFour
import Derived.Test.YtchajidblfakiaaWQPut
import Derived.Test.YtchajidblfakiaaWApart
import Derived.Test.YtchajidblfakiaaWArr
import Derived.Test.YtchajidblfakiaaWZeros
import Derived.Test.YtchajidblfakiaaWFoot
import Derived.Test.YtchajidblfakiaaWKept
import Derived.Test.YtchajidblfakiaaWShare
import Derived.Test.YtchajidblfakiaaWN
import Derived.Test.YtchajidblfakiaaWFootNe
import Derived.Test.YtchajidblfakiaaWAt
import Derived.Test.YtchajidblfakiaaWEqStruct
import Derived.Test.YtchajidblfakiaaWRepsOne
import Derived.Test.YtchajidblfakiaaWInv
import Derived.Test.YtchajidblfakiaaWInvWords
import Derived.Test.YtchajidblfakiaaWGuard
import Derived.Test.YtchajidblfakiaaWNEv
import Derived.Test.YtchajidblfakiaaWMore
import Derived.Test.YtchajidblfakiaaPFnMaskPartsx
import Derived.Test.YtchajidblfakiaaMaskW
import Derived.Test.YtchajidblfakiaaRoad
import Derived.Test.YtchajidblfakiaaRunes
import Derived.Test.YtchajidblfakiaaShelf
import Derived.Lib.EndianBits
import Derived.Stop.LaidErr
import Derived.RegionTactic
import Derived.StillTailTactics
import Derived.Laws.CopyRow
import Derived.Laws.CopyOwn
namespace Go.Proofs.Ytchajidblfakiaa.MaskL
open Go.RowKit Go.Proofs.YtchajidblfakiaaW.PrintWords Go.Proofs.YtchajidblfakiaaW.PrintLast Go.Proofs.YtchajidblfakiaaW.PrintMore
attribute [local go_sem] max2_int min2_int max_two min_two max_three min_three max_four min_four   -- for this text's walks alone
set_option linter.unusedVariables false
set_option linter.unusedSimpArgs false



open _root_.Go.Proofs.Ytchajidblfakiaa.MaskW _root_.Go.Proofs.Ytchajidblfakiaa.PFnMaskParts _root_.Go.Proofs.Ytchajidblfakiaa
set_option maxHeartbeats 8000000 in
set_option maxRecDepth 100000 in
theorem impl_Mask.calls (k0 k1 k2 k3 : Int) (p0 : Nat) (A : Option Addr) (c : Nat) (l : List Int) (w : World) (hp : p0 < 256) (hnM : l.length ≤ 1000000) (hbl : ∀ z ∈ l, 0 ≤ z ∧ z ≤ 255) (hks : ∀ j, 0 ≤ ksOf k0 k1 k2 k3 j ∧ ksOf k0 k1 k2 k3 j ≤ 255) (hC : Kd.C (Kd.int .u8) w A l.length l) (hc : l.length ≤ c) :
    Calls Try.prog 4 #[.agg #[.int .u8 k0, .int .u8 k1, .int .u8 k2, .int .u8 k3], .int .i64 p0, .slice A l.length c] w fun e w' => ∃ v0_ : Value, e = .returned v0_ ∧ Kd.R (Kd.int .u8) 5 w' w.heap.size (fun _ => True) v0_ (maskL (ksOf k0 k1 k2 k3) p0 l) ∧ Below w.heap.size w w' := by
  have HC := Aside0.mk hC
  have HX := Aside0.mk hc
  have HP := Aside0.mk (And.intro hp (And.intro hnM (And.intro hbl hks)))
  have HCP := Aside0.mk (show impl_copied.f l = some l by
    unfold impl_copied.f
    rw [Option.bind_some, if_pos (by rw [List.length_nil]; omega), List.nil_append])
  have cu : IntKind.u8.wrap (p0 : Int) = (p0 : Int) := wraps_u8 _ (by omega) (by omega)
  have cu2 : (p0 : Int) % 256 = (p0 : Int) := by omega
  clear hC hc hp hnM hbl hks
  go_enter Try.func4, Try.ntmps4
  go_wp2_with fail
  have hb1 : Below w.heap.size w (w.alloc (.cells #[.int .u8 k0, .int .u8 k1, .int .u8 k2, .int .u8 k3] 22)) := (Below.refl _ w).alloc (Nat.le_refl _) _
  have hk1 := heap_alloc_new w (.cells #[.int .u8 k0, .int .u8 k1, .int .u8 k2, .int .u8 k3] 22 (0, 0))
  have hs1 : (w.alloc (.cells #[.int .u8 k0, .int .u8 k1, .int .u8 k2, .int .u8 k3] 22)).heap.size = w.heap.size + 1 := by simp
  refine (impl_copied.calls A c l l _ (Kd.C_below HC.out hb1) HX.out HCP.out).mono ?_
  rintro e w2 ⟨v, rfl, hR, hb2⟩
  have hk2 : w2.heap[w.heap.size]? = some (.cells #[.int .u8 k0, .int .u8 k1, .int .u8 k2, .int .u8 k3] 22 (0, 0)) := (hb2.block w.heap.size (by rw [hs1]; exact Nat.lt_succ_self _)).trans hk1
  have d0 := cell_of_row w2 w.heap.size 0 _ _ _ hk2
  have d1 := cell_of_row w2 w.heap.size 1 _ _ _ hk2
  have d2 := cell_of_row w2 w.heap.size 2 _ _ _ hk2
  have d3 := cell_of_row w2 w.heap.size 3 _ _ _ hk2
  have HO := Aside0.mk (Kd.own_of_R hR)
  have HB2 := Aside0.mk (below_step hb1 hb2)
  have HS2 := Aside0.mk (show w.heap.size ≤ w2.heap.size from (below_step hb1 hb2).size)
  clear hb1 hk1 hb2 hR
  go_wp2_with fail
  refine (server_Unmask.walk k0 k1 k2 k3 p0 w.heap.size v l w2 HP.out.1 HP.out.2.1 HP.out.2.2.1 HP.out.2.2.2 HS2.out (own_less HO.out (by rw [hs1]; exact Nat.le_succ _))).mono ?_
  rintro e w3 ⟨rfl, hO3, hb3⟩
  have HO3 := Aside0.mk hO3
  have HB3 := Aside0.mk (HB2.out.trans hb3)
  clear hO3 hb3 hk2 d0 d1 d2 d3
  go_wp2_with fail
  go_ret
  refine ⟨v, rfl, Kd.R_of_own (enc := Value.int .u8) ?_ (fun _ _ => trivial), HB3.out⟩
  rw [maskL_len]
  exact HO3.out
theorem maskL_app (ks : Nat → Int) (a b : List Int) : maskL ks 0 (a ++ b) = maskL ks 0 a ++ maskL ks (a.length % 4) b := by
  apply List.ext_getElem?
  intro j
  rcases Nat.lt_or_ge j a.length with h | h
  · rw [List.getElem?_append_left (by rw [maskL_len]; exact h)]
    simp [maskL, h, show j < a.length + b.length by omega, List.getD_eq_getElem?_getD]
  · rw [List.getElem?_append_right (by rw [maskL_len]; exact h), maskL_len]
    rcases Nat.lt_or_ge j (a.length + b.length) with h2 | h2
    · have e : (a.length % 4 + (j - a.length)) % 4 = j % 4 := by omega
      simp only [maskL, List.getElem?_map, List.getElem?_range (show j < (a ++ b).length by rw [List.length_append]; exact h2), List.getElem?_range (show j - a.length < b.length by omega), Option.map_some, List.getD_eq_getElem?_getD, List.getElem?_append_right h, e, Nat.zero_add]
    · rw [List.getElem?_eq_none (by rw [maskL_len, List.length_append]; exact h2), List.getElem?_eq_none (by rw [maskL_len]; omega)]
set_option maxHeartbeats 8000000 in
set_option maxRecDepth 100000 in
theorem FM_A (k0 k1 k2 k3 : Int) (A0 : Option Addr) (c0 : Nat) (a : List Int) (A1 : Option Addr) (c1 : Nat) (b : List Int) (w : World) (hr0 : Kd.C (Kd.int .u8) w A0 a.length a) (hc0 : a.length ≤ c0) (hr1 : Kd.C (Kd.int .u8) w A1 b.length b) (hc1 : b.length ≤ c1) (h : 2147483647 < a.length) :
    Calls Try.prog 3 #[.agg #[.int .u8 k0, .int .u8 k1, .int .u8 k2, .int .u8 k3], .slice A0 a.length c0, .slice A1 b.length c1] w fun e w' => e = .returned (.bool true) ∧ Below w.heap.size w w' := by
  have q1 : decide ((2147483647 : Int) < (a.length : Int)) = true := decide_eq_true (by omega)
  have q1n : decide (2147483647 < a.length) = true := decide_eq_true (by omega)
  clear hr0 hc0 hr1 hc1 h
  go_enter Try.func3, Try.ntmps3
  go_wp2_with fail
  go_ret
  exact ⟨rfl, (Below.refl _ w).alloc (Nat.le_refl _) _⟩
set_option maxHeartbeats 8000000 in
set_option maxRecDepth 100000 in
theorem FM_B (k0 k1 k2 k3 : Int) (A0 : Option Addr) (c0 : Nat) (a : List Int) (A1 : Option Addr) (c1 : Nat) (b : List Int) (w : World) (hr0 : Kd.C (Kd.int .u8) w A0 a.length a) (hc0 : a.length ≤ c0) (hr1 : Kd.C (Kd.int .u8) w A1 b.length b) (hc1 : b.length ≤ c1) (h1 : ¬ 2147483647 < a.length) (h : 2147483647 < b.length) :
    Calls Try.prog 3 #[.agg #[.int .u8 k0, .int .u8 k1, .int .u8 k2, .int .u8 k3], .slice A0 a.length c0, .slice A1 b.length c1] w fun e w' => e = .returned (.bool true) ∧ Below w.heap.size w w' := by
  have q1 : decide ((2147483647 : Int) < (a.length : Int)) = false := decide_eq_false (by omega)
  have q1n : decide (2147483647 < a.length) = false := decide_eq_false (by omega)
  have q2 : decide ((2147483647 : Int) < (b.length : Int)) = true := decide_eq_true (by omega)
  have q2n : decide (2147483647 < b.length) = true := decide_eq_true (by omega)
  clear hr0 hc0 hr1 hc1 h h1
  go_enter Try.func3, Try.ntmps3
  go_wp2_with fail
  go_ret
  exact ⟨rfl, (Below.refl _ w).alloc (Nat.le_refl _) _⟩
set_option maxHeartbeats 8000000 in
set_option maxRecDepth 100000 in
theorem FM_C (k0 k1 k2 k3 : Int) (A0 : Option Addr) (c0 : Nat) (a : List Int) (A1 : Option Addr) (c1 : Nat) (b : List Int) (w : World) (hr0 : Kd.C (Kd.int .u8) w A0 a.length a) (hc0 : a.length ≤ c0) (hr1 : Kd.C (Kd.int .u8) w A1 b.length b) (hc1 : b.length ≤ c1) (h1 : ¬ 2147483647 < a.length) (h2 : ¬ 2147483647 < b.length) (h : 400 < a.length + b.length) :
    Calls Try.prog 3 #[.agg #[.int .u8 k0, .int .u8 k1, .int .u8 k2, .int .u8 k3], .slice A0 a.length c0, .slice A1 b.length c1] w fun e w' => e = .returned (.bool true) ∧ Below w.heap.size w w' := by
  have q1 : decide ((2147483647 : Int) < (a.length : Int)) = false := decide_eq_false (by omega)
  have q1n : decide (2147483647 < a.length) = false := decide_eq_false (by omega)
  have q2 : decide ((2147483647 : Int) < (b.length : Int)) = false := decide_eq_false (by omega)
  have q2n : decide (2147483647 < b.length) = false := decide_eq_false (by omega)
  obtain ⟨s, hs⟩ : ∃ s, s = a.length + b.length := ⟨_, rfl⟩
  have es : wrap64 ((a.length : Int) + (b.length : Int)) = (s : Int) := Road.w64 _ _ (by omega) (by omega) (by omega)
  have q3 : decide ((400 : Int) < (s : Int)) = true := decide_eq_true (by omega)
  have q3n : decide (400 < s) = true := decide_eq_true (by omega)
  have HS := Aside0.mk hs
  clear hr0 hc0 hr1 hc1 h h1 h2 hs
  go_enter Try.func3, Try.ntmps3
  go_wp2_with fail
  go_ret
  exact ⟨rfl, (Below.refl _ w).alloc (Nat.le_refl _) _⟩
set_option maxHeartbeats 8000000 in
set_option maxRecDepth 100000 in
theorem FM_D (k0 k1 k2 k3 : Int) (A0 : Option Addr) (c0 : Nat) (a : List Int) (A1 : Option Addr) (c1 : Nat) (b : List Int) (w : World) (hr0 : Kd.C (Kd.int .u8) w A0 a.length a) (hc0 : a.length ≤ c0) (hr1 : Kd.C (Kd.int .u8) w A1 b.length b) (hc1 : b.length ≤ c1) (h1 : ¬ 2147483647 < a.length) (h2 : ¬ 2147483647 < b.length) (h : ¬ 400 < a.length + b.length) (hab : ∀ z ∈ a, 0 ≤ z ∧ z ≤ 255) (hbb : ∀ z ∈ b, 0 ≤ z ∧ z ≤ 255) (hks : ∀ j, 0 ≤ ksOf k0 k1 k2 k3 j ∧ ksOf k0 k1 k2 k3 j ≤ 255) (k : Nat) (hsb : laws_sameBytes.f k (maskL (ksOf k0 k1 k2 k3) 0 (a ++ b)) (maskL (ksOf k0 k1 k2 k3) 0 (a ++ b)) = some true) :
    Calls Try.prog 3 #[.agg #[.int .u8 k0, .int .u8 k1, .int .u8 k2, .int .u8 k3], .slice A0 a.length c0, .slice A1 b.length c1] w fun e w' => e = .returned (.bool true) ∧ Below w.heap.size w w' := by
  have q1 : decide ((2147483647 : Int) < (a.length : Int)) = false := decide_eq_false (by omega)
  have q1n : decide (2147483647 < a.length) = false := decide_eq_false (by omega)
  have q2 : decide ((2147483647 : Int) < (b.length : Int)) = false := decide_eq_false (by omega)
  have q2n : decide (2147483647 < b.length) = false := decide_eq_false (by omega)
  obtain ⟨s, hs⟩ : ∃ s, s = a.length + b.length := ⟨_, rfl⟩
  have es : wrap64 ((a.length : Int) + (b.length : Int)) = (s : Int) := Road.w64 _ _ (by omega) (by omega) (by omega)
  have q3 : decide ((400 : Int) < (s : Int)) = false := decide_eq_false (by omega)
  have q3n : decide (400 < s) = false := decide_eq_false (by omega)
  have HS := Aside0.mk (And.intro hs h)
  have HR0 := Aside0.mk hr0
  have HR1 := Aside0.mk hr1
  have HC := Aside0.mk (And.intro hc0 hc1)
  have HBY := Aside0.mk (And.intro hab (And.intro hbb hks))
  have HSB := Aside0.mk hsb
  clear hr0 hc0 hr1 hc1 h h1 h2 hs hab hbb hks hsb
  go_enter Try.func3, Try.ntmps3
  go_wp2_with fail
  have hK1 := heap_alloc_new w (.cells #[.int .u8 k0, .int .u8 k1, .int .u8 k2, .int .u8 k3] 22 (0, 0))
  have hB1 : Below w.heap.size w (w.alloc (.cells #[.int .u8 k0, .int .u8 k1, .int .u8 k2, .int .u8 k3] 22 (0, 0))) := (Below.refl _ w).alloc (Nat.le_refl _) _
  have hs1 : w.heap.size < (w.alloc (.cells #[.int .u8 k0, .int .u8 k1, .int .u8 k2, .int .u8 k3] 22 (0, 0))).heap.size := by simp
  obtain ⟨KB, hKB⟩ : ∃ KB, KB = w.heap.size := ⟨_, rfl⟩
  generalize w.alloc (.cells #[.int .u8 k0, .int .u8 k1, .int .u8 k2, .int .u8 k3] 22 (0, 0)) = w1 at hK1 hB1 hs1 ⊢
  rw [← hKB] at hK1 hs1 ⊢
  have HK1 := Aside0.mk hK1
  have HB1 := Aside0.mk hB1
  have HS1 := Aside0.mk hs1
  have HKB := Aside0.mk hKB
  clear hK1 hB1 hs1 hKB
  refine start_ (n := 8) (S := fun w' => w'.heap[KB]? = some (.cells #[.int .u8 k0, .int .u8 k1, .int .u8 k2, .int .u8 k3] 22 (0, 0))) (ds := []) #[false, false, false, false, false, false, false, false] (by kernel_rfl) rfl rfl HK1.out (fun hHeld => ?_)
  refine take_ (i := 0) (N := some 24) (v := ?_) (a' := ?_) #[true, false, false, false, false, false, false, false] rfl rfl (by kernel_rfl) (fun _ _ _ h => h) (Or.inl ⟨by rfl, ?_⟩) hHeld ?_ ?_
  rotate_left
  · intro w' hS'
    have d0 := cell_of_row w' KB 0 _ _ _ hS'
    have d1 := cell_of_row w' KB 1 _ _ _ hS'
    have d2 := cell_of_row w' KB 2 _ _ _ hS'
    have d3 := cell_of_row w' KB 3 _ _ _ hS'
    clear hS'
    go_simp
    with_reducible rfl
  rotate_left
  · simp only [Act.put, List.setIfInBounds_toArray, List.set_cons_zero, List.set_cons_succ, i64_w, i32_w]
    rfl
  refine pure_ (i := 2) (N := some 26) (v := ?_) (a' := ?_) #[true, false, true, false, false, false, false, false] rfl rfl (by kernel_rfl) (fun _ _ _ h => h) (Or.inl ⟨by rfl, ?_⟩) ?_ ?_
  rotate_left
  · intro w'
    go_simp
    with_reducible rfl
  rotate_left
  · simp only [Act.put, List.setIfInBounds_toArray, List.set_cons_zero, List.set_cons_succ, i64_w, i32_w]
    rfl
  refine pure_ (i := 4) (N := some 28) (v := ?_) (a' := ?_) #[true, false, true, false, true, false, false, false] rfl rfl (by kernel_rfl) (fun _ _ _ h => h) (Or.inl ⟨by rfl, ?_⟩) ?_ ?_
  rotate_left
  · intro w'
    go_simp
    with_reducible rfl
  rotate_left
  · simp only [Act.put, List.setIfInBounds_toArray, List.set_cons_zero, List.set_cons_succ, i64_w, i32_w]
    rfl
  refine one_ (i := 1) (N := some 25) #[true, true, true, false, true, false, false, false] rfl rfl (by kernel_rfl) (by decide) (fun K hK => ?_)
  refine Kd.R_lit_step (Kd.int .u8) (w0 := w1.drew) w1.heap.size 5 ?hg (N := 25) ?hd (xs := ([] : List Int)) (inner := []) (ok := fun _ => True) (okp := fun _ => True) ?hr ?hp (fun _ hk => hk) trivial (Below.refl _ _) (Nat.le_refl _) (by simp) ?_; (case hd => rfl); (case hg => rfl); (case hr => first | (go_simp; done) | (go_simp; rfl)); (case hp => exact (Reps.none _ _))
  intro vA wA hR_wA hb_wA _ _
  have hS_wA : wA.heap[KB]? = some (.cells #[.int .u8 k0, .int .u8 k1, .int .u8 k2, .int .u8 k3] 22 (0, 0)) := (hb_wA.block KB HS1.out).trans HK1.out
  refine hK.out _ _ hS_wA (fun hHeld => ?_)
  clear hK K
  refine norm_ (a' := ?_) ?_ ?_
  rotate_left
  · show Act.put _ (some 25) _ = _
    simp only [Act.put, List.setIfInBounds_toArray, List.set_cons_zero, List.set_cons_succ, i64_w, i32_w]
    rfl
  refine one_ (i := 3) (N := some 27) #[true, true, true, true, true, false, false, false] rfl rfl (by kernel_rfl) (by decide) (fun K hK => ?_)
  refine Kd.R_append_rows_step (Kd.int .u8) (w0 := w1.drew) w1.heap.size (by rfl) (.tmp 25) (.tmp 26) 23 5 (.int .u8 0) 1 rfl Try.underlying23 info5 rfl (by decide) (by omega) vA [] a _ _ _ (fun _ => True) (fun _ => False) rfl rfl hR_wA (Kd.C_below (Kd.C_drew (Kd.C_below HR0.out HB1.out)) hb_wA) (fun _ _ h => h) (fun _ h => h.elim) (fun _ _ => trivial) hb_wA (hb_wA).size (by rw [List.length_nil]; have := HS.out; omega) ?_
  intro vB wB hR_wB hb_wB hg_wB hat_wB
  have hS_wB : wB.heap[KB]? = some (.cells #[.int .u8 k0, .int .u8 k1, .int .u8 k2, .int .u8 k3] 22 (0, 0)) := (hb_wB.block KB HS1.out).trans HK1.out
  refine hK.out _ _ hS_wB (fun hHeld => ?_)
  clear hK K
  refine norm_ (a' := ?_) ?_ ?_
  rotate_left
  · show Act.put _ (some 27) _ = _
    simp only [Act.put, List.setIfInBounds_toArray, List.set_cons_zero, List.set_cons_succ, i64_w, i32_w]
    rfl
  refine one_ (i := 5) (N := some 29) #[true, true, true, true, true, true, false, false] rfl rfl (by kernel_rfl) (by decide) (fun K hK => ?_)
  refine Kd.R_append_rows_step (Kd.int .u8) (w0 := w1.drew) w1.heap.size (by rfl) (.tmp 27) (.tmp 28) 23 5 (.int .u8 0) 1 rfl Try.underlying23 info5 rfl (by decide) (by omega) vB ([] ++ a) b _ _ _ (fun _ => True) (fun _ => False) rfl rfl hR_wB (Kd.C_below (Kd.C_drew (Kd.C_below HR1.out HB1.out)) hb_wB) (fun _ _ h => h) (fun _ h => h.elim) (fun _ _ => trivial) hb_wB (hb_wB).size (by rw [List.nil_append]; have := HS.out; omega) ?_
  intro vC wC hR_wC hb_wC hg_wC hat_wC
  rw [List.nil_append] at hR_wC
  obtain ⟨AC, cC, eC, hcC, hCC⟩ := Kd.R_reads hR_wC
  subst eC
  have hS_wC : wC.heap[KB]? = some (.cells #[.int .u8 k0, .int .u8 k1, .int .u8 k2, .int .u8 k3] 22 (0, 0)) := (hb_wC.block KB HS1.out).trans HK1.out
  refine hK.out _ _ hS_wC (fun hHeld => ?_)
  clear hK K
  refine norm_ (a' := ?_) ?_ ?_
  rotate_left
  · show Act.put _ (some 29) _ = _
    simp only [Act.put, List.setIfInBounds_toArray, List.set_cons_zero, List.set_cons_succ, i64_w, i32_w]
    rfl
  refine one_ (i := 6) (N := some 30) #[true, true, true, true, true, true, true, false] rfl rfl (by kernel_rfl) (by decide) (fun K hK => ?_)
  refine goes_ Try.func4 (by kernel_rfl) rfl #[.agg #[.int .u8 k0, .int .u8 k1, .int .u8 k2, .int .u8 k3], .int .i64 0, .slice AC (a ++ b).length cC] (by rfl) rfl rfl (by simp only [List.map_toArray, List.map_cons, List.map_nil]; rfl) ?_
  refine (impl_Mask.calls k0 k1 k2 k3 0 AC cC (a ++ b) wC (by omega) (by rw [List.length_append]; have := HS.out; omega) (fun z hz => (List.mem_append.1 hz).elim (HBY.out.1 z) (HBY.out.2.1 z)) HBY.out.2.2 hCC hcC).mono ?_
  rintro e wD ⟨vD, rfl, hR_wD, hb_wD⟩
  refine ⟨_, rfl, ?_⟩
  have hS_wD : wD.heap[KB]? = some (.cells #[.int .u8 k0, .int .u8 k1, .int .u8 k2, .int .u8 k3] 22 (0, 0)) := (hb_wD.block KB (Nat.lt_of_lt_of_le HS1.out hb_wC.size)).trans hS_wC
  refine hK.out _ _ hS_wD (fun hHeld => ?_)
  clear hK K
  refine norm_ (a' := ?_) ?_ ?_
  rotate_left
  · show Act.put _ (some 30) _ = _
    simp only [Act.put, List.setIfInBounds_toArray, List.set_cons_zero, List.set_cons_succ, i64_w, i32_w]
    rfl
  refine pure_ (i := 7) (N := some 7) (v := ?_) (a' := ?_) #[true, true, true, true, true, true, true, true] rfl rfl (by kernel_rfl) (fun _ _ _ h => h) (Or.inl ⟨by rfl, ?_⟩) ?_ ?_
  rotate_left
  · intro w'
    go_simp
    with_reducible rfl
  rotate_left
  · simp only [Act.put, List.setIfInBounds_toArray, List.set_cons_zero, List.set_cons_succ, i64_w, i32_w]
    rfl
  refine done_ (by kernel_rfl) ?_
  obtain ⟨AD, cD, eD, hcD, hCD⟩ := Kd.R_reads hR_wD
  subst eD
  have HBD := Aside0.mk (below_step HB1.out (below_step (below_drew (Below.refl _ w1)) (hb_wC.trans (hb_wD.mono hb_wC.size))))
  have HCD := Aside0.mk (And.intro hcD hCD)
  have HSD := Aside0.mk hS_wD
  have HLD := Aside0.mk (show KB < wD.heap.size from (Array.getElem?_eq_some_iff.1 hS_wD).1)
  clear hR_wD hS_wD hS_wC hS_wB hS_wA hR_wA hR_wB hR_wC hb_wA hb_wB hb_wC hb_wD hg_wB hg_wC hat_wB hat_wC hCC hcC hcD hCD
  try clear hHeld
  obtain ⟨m4, hm4⟩ : ∃ m4, m4 = a.length % 4 := ⟨_, rfl⟩
  have erem : Int.tmod (a.length : Int) 4 = (m4 : Int) := by rw [Int.tmod_eq_emod_of_nonneg (by omega)]; omega
  have erem1 : (a.length : Int) % 4 = (m4 : Int) := by omega
  have erem2 : wrap64 (m4 : Int) = (m4 : Int) := Road.w64 _ _ rfl (by omega) (by omega)
  have erem3 : IntKind.i64.wrap (m4 : Int) = (m4 : Int) := Road.wi64 _ _ rfl (by omega) (by omega)
  have HM4 := Aside0.mk hm4
  clear hm4
  go_wp2_with fail
  go_cut [8, 9] from 31 (fun v8 v9 wx => ∃ (AX : Option Addr) (cX : Nat) (AY : Option Addr) (cY : Nat), v8 = .slice AX (maskL (ksOf k0 k1 k2 k3) 0 a).length cX ∧ v9 = .slice AY (maskL (ksOf k0 k1 k2 k3) m4 b).length cY ∧ Aside0 (Kd.C (Kd.int .u8) wx AX (maskL (ksOf k0 k1 k2 k3) 0 a).length (maskL (ksOf k0 k1 k2 k3) 0 a) ∧ (maskL (ksOf k0 k1 k2 k3) 0 a).length ≤ cX) ∧ Aside0 (Kd.C (Kd.int .u8) wx AY (maskL (ksOf k0 k1 k2 k3) m4 b).length (maskL (ksOf k0 k1 k2 k3) m4 b) ∧ (maskL (ksOf k0 k1 k2 k3) m4 b).length ≤ cY) ∧ Aside0 (wx.heap[KB]? = some (.cells #[.int .u8 k0, .int .u8 k1, .int .u8 k2, .int .u8 k3] 22 (0, 0))) ∧ Aside0 (Below wD.heap.size wD wx))
  case first =>
    refine start_ (n := 15) (S := fun w' => w'.heap[KB]? = some (.cells #[.int .u8 k0, .int .u8 k1, .int .u8 k2, .int .u8 k3] 22 (0, 0))) (ds := []) #[false, false, false, false, false, false, false, false, false, false, false, false, false, false, false] (by kernel_rfl) rfl rfl HSD.out (fun hHeld => ?_)
    refine take_ (i := 0) (N := some 31) (v := ?_) (a' := ?_) #[true, false, false, false, false, false, false, false, false, false, false, false, false, false, false] rfl rfl (by kernel_rfl) (fun _ _ _ h => h) (Or.inl ⟨by rfl, ?_⟩) hHeld ?_ ?_
    rotate_left
    · intro w' hS'
      have d0 := cell_of_row w' KB 0 _ _ _ hS'
      have d1 := cell_of_row w' KB 1 _ _ _ hS'
      have d2 := cell_of_row w' KB 2 _ _ _ hS'
      have d3 := cell_of_row w' KB 3 _ _ _ hS'
      clear hS'
      go_simp
      with_reducible rfl
    rotate_left
    · simp only [Act.put, List.setIfInBounds_toArray, List.set_cons_zero, List.set_cons_succ, i64_w, i32_w]
      rfl
    refine pure_ (i := 2) (N := some 33) (v := ?_) (a' := ?_) #[true, false, true, false, false, false, false, false, false, false, false, false, false, false, false] rfl rfl (by kernel_rfl) (fun _ _ _ h => h) (Or.inl ⟨by rfl, ?_⟩) ?_ ?_
    rotate_left
    · intro w'
      go_simp
      with_reducible rfl
    rotate_left
    · simp only [Act.put, List.setIfInBounds_toArray, List.set_cons_zero, List.set_cons_succ, i64_w, i32_w]
      rfl
    refine take_ (i := 5) (N := some 36) (v := ?_) (a' := ?_) #[true, false, true, false, false, true, false, false, false, false, false, false, false, false, false] rfl rfl (by kernel_rfl) (fun _ _ _ h => h) (Or.inl ⟨by rfl, ?_⟩) hHeld ?_ ?_
    rotate_left
    · intro w' hS'
      have d0 := cell_of_row w' KB 0 _ _ _ hS'
      have d1 := cell_of_row w' KB 1 _ _ _ hS'
      have d2 := cell_of_row w' KB 2 _ _ _ hS'
      have d3 := cell_of_row w' KB 3 _ _ _ hS'
      clear hS'
      go_simp
      with_reducible rfl
    rotate_left
    · simp only [Act.put, List.setIfInBounds_toArray, List.set_cons_zero, List.set_cons_succ, i64_w, i32_w]
      rfl
    refine pure_ (i := 6) (N := some 37) (v := ?_) (a' := ?_) #[true, false, true, false, false, true, true, false, false, false, false, false, false, false, false] rfl rfl (by kernel_rfl) (fun _ _ _ h => h) (Or.inl ⟨by rfl, ?_⟩) ?_ ?_
    rotate_left
    · intro w'
      go_simp
      with_reducible rfl
    rotate_left
    · simp only [Act.put, List.setIfInBounds_toArray, List.set_cons_zero, List.set_cons_succ, i64_w, i32_w]
      rfl
    refine pure_ (i := 7) (N := some 38) (v := ?_) (a' := ?_) #[true, false, true, false, false, true, true, true, false, false, false, false, false, false, false] rfl rfl (by kernel_rfl) (fun _ _ _ h => h) (Or.inl ⟨by rfl, ?_⟩) ?_ ?_
    rotate_left
    · intro w'
      go_simp
      with_reducible rfl
    rotate_left
    · simp only [Act.put, List.setIfInBounds_toArray, List.set_cons_zero, List.set_cons_succ, i64_w, i32_w]
      rfl
    refine pure_ (i := 8) (N := some 39) (v := ?_) (a' := ?_) #[true, false, true, false, false, true, true, true, true, false, false, false, false, false, false] rfl rfl (by kernel_rfl) (fun _ _ _ h => h) (Or.inl ⟨by rfl, ?_⟩) ?_ ?_
    rotate_left
    · intro w'
      go_simp
      with_reducible rfl
    rotate_left
    · simp only [Act.put, List.setIfInBounds_toArray, List.set_cons_zero, List.set_cons_succ, i64_w, i32_w]
      rfl
    refine pure_ (i := 10) (N := some 41) (v := ?_) (a' := ?_) #[true, false, true, false, false, true, true, true, true, false, true, false, false, false, false] rfl rfl (by kernel_rfl) (fun _ _ _ h => h) (Or.inl ⟨by rfl, ?_⟩) ?_ ?_
    rotate_left
    · intro w'
      go_simp
      with_reducible rfl
    rotate_left
    · simp only [Act.put, List.setIfInBounds_toArray, List.set_cons_zero, List.set_cons_succ, i64_w, i32_w]
      rfl
    obtain ⟨yD, hyD⟩ : ∃ yD, yD = wD.drew := ⟨_, rfl⟩
    have hz0 : wD.heap.size ≤ yD.heap.size := by rw [hyD]; exact Nat.le_refl _
    have hS_yD : yD.heap[KB]? = some (.cells #[.int .u8 k0, .int .u8 k1, .int .u8 k2, .int .u8 k3] 22 (0, 0)) := by rw [hyD]; exact HSD.out
    have hT_yD : Below wD.heap.size wD yD := by rw [hyD]; exact below_drew (Below.refl _ wD)
    rw [← hyD] at hHeld ⊢
    clear hyD
    refine two_ (i := 1) (j := 9) (Ni := some 32) (Nj := some 40) #[true, true, true, false, false, true, true, true, true, false, true, false, false, false, false] #[true, false, true, false, false, true, true, true, true, true, true, false, false, false, false] rfl rfl rfl rfl (by kernel_rfl) (by decide) (by decide) (fun K hK => ?_) (fun K hK => ?_)
    · refine Kd.R_lit_step (Kd.int .u8) (w0 := yD) yD.heap.size 5 ?hg (N := 32) ?hd (xs := ([] : List Int)) (inner := []) (ok := fun _ => True) (okp := fun _ => True) ?hr ?hp (fun _ hk => hk) trivial (Below.refl _ _) (Nat.le_refl _) (by simp) ?_; (case hd => rfl); (case hg => rfl); (case hr => first | (go_simp; done) | (go_simp; rfl)); (case hp => exact (Reps.none _ _))
      intro v32 y1 hR_32 hb_y1 _ _
      have hL_32 := Kd.R_lt hR_32
      have hz_y1 := hb_y1.size
      have hS_y1 : y1.heap[KB]? = some (.cells #[.int .u8 k0, .int .u8 k1, .int .u8 k2, .int .u8 k3] 22 (0, 0)) := (hb_y1.block KB (by have z0 := hz0; have := hz_y1; have := HLD.out; omega)).trans hS_yD
      have hT_y1 : Below wD.heap.size wD y1 := hT_yD.trans (hb_y1.mono (by have z0 := hz0; have := hz_y1; have := HLD.out; omega))
      refine hK.out _ _ hS_y1 (fun hHeld => ?_)
      clear hK K
      refine norm_ (a' := ?_) ?_ ?_
      rotate_left
      · show Act.put _ (some 32) _ = _
        simp only [Act.put, List.setIfInBounds_toArray, List.set_cons_zero, List.set_cons_succ, i64_w, i32_w]
        rfl
      refine two_ (i := 3) (j := 9) (Ni := some 34) (Nj := some 40) #[true, true, true, true, false, true, true, true, true, false, true, false, false, false, false] #[true, true, true, false, false, true, true, true, true, true, true, false, false, false, false] rfl rfl rfl rfl (by kernel_rfl) (by decide) (by decide) (fun K hK => ?_) (fun K hK => ?_)
      · have hC_34 : Kd.C (Kd.int .u8) y1 _ a.length a := Kd.C_below (Kd.C_below HR0.out HBD.out) hT_y1
        refine Kd.R_append_rows_step (Kd.int .u8) (w0 := y1) yD.heap.size (by rfl) (.tmp 32) (.tmp 33) 23 5 (.int .u8 0) 1 rfl Try.underlying23 info5 rfl (by decide) (by omega) v32 [] a _ _ _ (fun _ => True) (fun _ => False) rfl rfl hR_32 hC_34 (fun _ _ h => h) (fun _ h => h.elim) (fun _ _ => trivial) (Below.refl _ _) (by have z0 := hz0; have := hz_y1; have := HLD.out; omega) (by rw [List.length_nil]; have := HS.out; omega) ?_
        intro v34 y2 hR_34 hb_y2 hg_y2 _
        rw [List.nil_append] at hR_34
        have hL_34 := Kd.R_lt hR_34
        clear hR_32
        have hz_y2 := hb_y2.size
        have hS_y2 : y2.heap[KB]? = some (.cells #[.int .u8 k0, .int .u8 k1, .int .u8 k2, .int .u8 k3] 22 (0, 0)) := (hb_y2.block KB (by have z0 := hz0; have := hz_y1; have := hz_y2; have := HLD.out; omega)).trans hS_y1
        have hT_y2 : Below wD.heap.size wD y2 := hT_y1.trans (hb_y2.mono (by have z0 := hz0; have := hz_y1; have := hz_y2; have := HLD.out; omega))
        refine hK.out _ _ hS_y2 (fun hHeld => ?_)
        clear hK K
        refine norm_ (a' := ?_) ?_ ?_
        rotate_left
        · show Act.put _ (some 34) _ = _
          simp only [Act.put, List.setIfInBounds_toArray, List.set_cons_zero, List.set_cons_succ, i64_w, i32_w]
          rfl
        refine two_ (i := 4) (j := 9) (Ni := some 35) (Nj := some 40) #[true, true, true, true, true, true, true, true, true, false, true, false, false, false, false] #[true, true, true, true, false, true, true, true, true, true, true, false, false, false, false] rfl rfl rfl rfl (by kernel_rfl) (by decide) (by decide) (fun K hK => ?_) (fun K hK => ?_)
        · obtain ⟨A35, c35, e35, hc35, hC35⟩ := Kd.R_reads hR_34
          subst e35
          refine goes_ Try.func4 (by kernel_rfl) rfl #[.agg #[.int .u8 k0, .int .u8 k1, .int .u8 k2, .int .u8 k3], .int .i64 0, .slice A35 a.length c35] (by rfl) rfl rfl (by simp only [List.map_toArray, List.map_cons, List.map_nil]; rfl) ?_
          refine (impl_Mask.calls k0 k1 k2 k3 0 A35 c35 a y2 (by have := HM4.out; omega) (by have := HS.out; omega) HBY.out.1 HBY.out.2.2 hC35 hc35).mono ?_
          rintro e y3 ⟨v35, rfl, hR_35, hb_y3⟩
          refine ⟨_, rfl, ?_⟩
          have hL_35 := Kd.R_lt hR_35
          clear hR_34 hC35 hc35
          have hz_y3 := hb_y3.size
          have hS_y3 : y3.heap[KB]? = some (.cells #[.int .u8 k0, .int .u8 k1, .int .u8 k2, .int .u8 k3] 22 (0, 0)) := (hb_y3.block KB (by have z0 := hz0; have := hz_y1; have := hz_y2; have := hz_y3; have := HLD.out; omega)).trans hS_y2
          have hT_y3 : Below wD.heap.size wD y3 := hT_y2.trans (hb_y3.mono (by have z0 := hz0; have := hz_y1; have := hz_y2; have := hz_y3; have := HLD.out; omega))
          refine hK.out _ _ hS_y3 (fun hHeld => ?_)
          clear hK K
          refine norm_ (a' := ?_) ?_ ?_
          rotate_left
          · show Act.put _ (some 35) _ = _
            simp only [Act.put, List.setIfInBounds_toArray, List.set_cons_zero, List.set_cons_succ, i64_w, i32_w]
            rfl
          refine one_ (i := 9) (N := some 40) #[true, true, true, true, true, true, true, true, true, true, true, false, false, false, false] rfl rfl (by kernel_rfl) (by decide) (fun K hK => ?_)
          refine Kd.R_lit_step (Kd.int .u8) (w0 := y3) y3.heap.size 5 ?hg (N := 40) ?hd (xs := ([] : List Int)) (inner := []) (ok := fun _ => True) (okp := fun _ => True) ?hr ?hp (fun _ hk => hk) trivial (Below.refl _ _) (Nat.le_refl _) (by simp) ?_; (case hd => rfl); (case hg => rfl); (case hr => first | (go_simp; done) | (go_simp; rfl)); (case hp => exact (Reps.none _ _))
          intro v40 y4 hR_40 hb_y4 _ _
          replace hR_35 := Kd.R_below hR_35 hb_y4
          have hL_40 := Kd.R_lt hR_40
          have hz_y4 := hb_y4.size
          have hS_y4 : y4.heap[KB]? = some (.cells #[.int .u8 k0, .int .u8 k1, .int .u8 k2, .int .u8 k3] 22 (0, 0)) := (hb_y4.block KB (by have z0 := hz0; have := hz_y1; have := hz_y2; have := hz_y3; have := hz_y4; have := HLD.out; omega)).trans hS_y3
          have hT_y4 : Below wD.heap.size wD y4 := hT_y3.trans (hb_y4.mono (by have z0 := hz0; have := hz_y1; have := hz_y2; have := hz_y3; have := hz_y4; have := HLD.out; omega))
          refine hK.out _ _ hS_y4 (fun hHeld => ?_)
          clear hK K
          refine norm_ (a' := ?_) ?_ ?_
          rotate_left
          · show Act.put _ (some 40) _ = _
            simp only [Act.put, List.setIfInBounds_toArray, List.set_cons_zero, List.set_cons_succ, i64_w, i32_w]
            rfl
          refine one_ (i := 11) (N := some 42) #[true, true, true, true, true, true, true, true, true, true, true, true, false, false, false] rfl rfl (by kernel_rfl) (by decide) (fun K hK => ?_)
          have hC_42 : Kd.C (Kd.int .u8) y4 _ b.length b := Kd.C_below (Kd.C_below HR1.out HBD.out) hT_y4
          refine Kd.R_append_rows_step (Kd.int .u8) (w0 := y4) y3.heap.size (by rfl) (.tmp 40) (.tmp 41) 23 5 (.int .u8 0) 1 rfl Try.underlying23 info5 rfl (by decide) (by omega) v40 [] b _ _ _ (fun _ => True) (fun _ => False) rfl rfl hR_40 hC_42 (fun _ _ h => h) (fun _ h => h.elim) (fun _ _ => trivial) (Below.refl _ _) (by have z0 := hz0; have := hz_y1; have := hz_y2; have := hz_y3; have := hz_y4; have := HLD.out; omega) (by rw [List.length_nil]; have := HS.out; omega) ?_
          intro v42 y5 hR_42 hb_y5 hg_y5 _
          rw [List.nil_append] at hR_42
          replace hR_35 := Kd.R_grown2 hR_35 rfl hg_y5 (fun k hk e_ => absurd (hL_35 k e_.symm) (by have := Kd.R_base hR_40 k hk; have z0 := hz0; have := hz_y1; have := hz_y2; have := hz_y3; have := hz_y4; have := HLD.out; omega))
          have hL_42 := Kd.R_lt hR_42
          clear hR_40
          have hz_y5 := hb_y5.size
          have hS_y5 : y5.heap[KB]? = some (.cells #[.int .u8 k0, .int .u8 k1, .int .u8 k2, .int .u8 k3] 22 (0, 0)) := (hb_y5.block KB (by have z0 := hz0; have := hz_y1; have := hz_y2; have := hz_y3; have := hz_y4; have := hz_y5; have := HLD.out; omega)).trans hS_y4
          have hT_y5 : Below wD.heap.size wD y5 := hT_y4.trans (hb_y5.mono (by have z0 := hz0; have := hz_y1; have := hz_y2; have := hz_y3; have := hz_y4; have := hz_y5; have := HLD.out; omega))
          refine hK.out _ _ hS_y5 (fun hHeld => ?_)
          clear hK K
          refine norm_ (a' := ?_) ?_ ?_
          rotate_left
          · show Act.put _ (some 42) _ = _
            simp only [Act.put, List.setIfInBounds_toArray, List.set_cons_zero, List.set_cons_succ, i64_w, i32_w]
            rfl
          refine one_ (i := 12) (N := some 43) #[true, true, true, true, true, true, true, true, true, true, true, true, true, false, false] rfl rfl (by kernel_rfl) (by decide) (fun K hK => ?_)
          obtain ⟨A43, c43, e43, hc43, hC43⟩ := Kd.R_reads hR_42
          subst e43
          refine goes_ Try.func4 (by kernel_rfl) rfl #[.agg #[.int .u8 k0, .int .u8 k1, .int .u8 k2, .int .u8 k3], .int .i64 m4, .slice A43 b.length c43] (by rfl) rfl rfl (by simp only [List.map_toArray, List.map_cons, List.map_nil]; rfl) ?_
          refine (impl_Mask.calls k0 k1 k2 k3 m4 A43 c43 b y5 (by have := HM4.out; omega) (by have := HS.out; omega) HBY.out.2.1 HBY.out.2.2 hC43 hc43).mono ?_
          rintro e y6 ⟨v43, rfl, hR_43, hb_y6⟩
          refine ⟨_, rfl, ?_⟩
          replace hR_35 := Kd.R_below hR_35 hb_y6
          have hL_43 := Kd.R_lt hR_43
          clear hR_42 hC43 hc43
          have hz_y6 := hb_y6.size
          have hS_y6 : y6.heap[KB]? = some (.cells #[.int .u8 k0, .int .u8 k1, .int .u8 k2, .int .u8 k3] 22 (0, 0)) := (hb_y6.block KB (by have z0 := hz0; have := hz_y1; have := hz_y2; have := hz_y3; have := hz_y4; have := hz_y5; have := hz_y6; have := HLD.out; omega)).trans hS_y5
          have hT_y6 : Below wD.heap.size wD y6 := hT_y5.trans (hb_y6.mono (by have z0 := hz0; have := hz_y1; have := hz_y2; have := hz_y3; have := hz_y4; have := hz_y5; have := hz_y6; have := HLD.out; omega))
          refine hK.out _ _ hS_y6 (fun hHeld => ?_)
          clear hK K
          refine norm_ (a' := ?_) ?_ ?_
          rotate_left
          · show Act.put _ (some 43) _ = _
            simp only [Act.put, List.setIfInBounds_toArray, List.set_cons_zero, List.set_cons_succ, i64_w, i32_w]
            rfl
          obtain ⟨AX, cX, eX, hcX, hCX⟩ := Kd.R_reads hR_35
          subst eX
          obtain ⟨AY, cY, eY, hcY, hCY⟩ := Kd.R_reads hR_43
          subst eY
          refine pure_ (i := 13) (N := some 8) (v := ?_) (a' := ?_) #[true, true, true, true, true, true, true, true, true, true, true, true, true, true, false] rfl rfl (by kernel_rfl) (fun _ _ _ h => h) (Or.inl ⟨by rfl, ?_⟩) ?_ ?_
          rotate_left
          · intro w'
            go_simp
            with_reducible rfl
          rotate_left
          · simp only [Act.put, List.setIfInBounds_toArray, List.set_cons_zero, List.set_cons_succ, i64_w, i32_w]
            rfl
          refine pure_ (i := 14) (N := some 9) (v := ?_) (a' := ?_) #[true, true, true, true, true, true, true, true, true, true, true, true, true, true, true] rfl rfl (by kernel_rfl) (fun _ _ _ h => h) (Or.inl ⟨by rfl, ?_⟩) ?_ ?_
          rotate_left
          · intro w'
            go_simp
            with_reducible rfl
          rotate_left
          · simp only [Act.put, List.setIfInBounds_toArray, List.set_cons_zero, List.set_cons_succ, i64_w, i32_w]
            rfl
          refine done_ (by kernel_rfl) ?_
          go_wp2_with fail
          go_meet
          exact ⟨AX, cX, AY, cY, rfl, rfl, ⟨hCX, hcX⟩, ⟨hCY, hcY⟩, ⟨hS_y6⟩, ⟨hT_y6⟩⟩
        · refine Kd.R_lit_step (Kd.int .u8) (w0 := y2) y2.heap.size 5 ?hg (N := 40) ?hd (xs := ([] : List Int)) (inner := []) (ok := fun _ => True) (okp := fun _ => True) ?hr ?hp (fun _ hk => hk) trivial (Below.refl _ _) (Nat.le_refl _) (by simp) ?_; (case hd => rfl); (case hg => rfl); (case hr => first | (go_simp; done) | (go_simp; rfl)); (case hp => exact (Reps.none _ _))
          intro v40 y3 hR_40 hb_y3 _ _
          replace hR_34 := Kd.R_below hR_34 hb_y3
          have hL_40 := Kd.R_lt hR_40
          have hz_y3 := hb_y3.size
          have hS_y3 : y3.heap[KB]? = some (.cells #[.int .u8 k0, .int .u8 k1, .int .u8 k2, .int .u8 k3] 22 (0, 0)) := (hb_y3.block KB (by have z0 := hz0; have := hz_y1; have := hz_y2; have := hz_y3; have := HLD.out; omega)).trans hS_y2
          have hT_y3 : Below wD.heap.size wD y3 := hT_y2.trans (hb_y3.mono (by have z0 := hz0; have := hz_y1; have := hz_y2; have := hz_y3; have := HLD.out; omega))
          refine hK.out _ _ hS_y3 (fun hHeld => ?_)
          clear hK K
          refine norm_ (a' := ?_) ?_ ?_
          rotate_left
          · show Act.put _ (some 40) _ = _
            simp only [Act.put, List.setIfInBounds_toArray, List.set_cons_zero, List.set_cons_succ, i64_w, i32_w]
            rfl
          refine one_ (i := 4) (N := some 35) #[true, true, true, true, true, true, true, true, true, true, true, false, false, false, false] rfl rfl (by kernel_rfl) (by decide) (fun K hK => ?_)
          obtain ⟨A35, c35, e35, hc35, hC35⟩ := Kd.R_reads hR_34
          subst e35
          refine goes_ Try.func4 (by kernel_rfl) rfl #[.agg #[.int .u8 k0, .int .u8 k1, .int .u8 k2, .int .u8 k3], .int .i64 0, .slice A35 a.length c35] (by rfl) rfl rfl (by simp only [List.map_toArray, List.map_cons, List.map_nil]; rfl) ?_
          refine (impl_Mask.calls k0 k1 k2 k3 0 A35 c35 a y3 (by have := HM4.out; omega) (by have := HS.out; omega) HBY.out.1 HBY.out.2.2 hC35 hc35).mono ?_
          rintro e y4 ⟨v35, rfl, hR_35, hb_y4⟩
          refine ⟨_, rfl, ?_⟩
          replace hR_40 := Kd.R_below hR_40 hb_y4
          have hL_35 := Kd.R_lt hR_35
          clear hR_34 hC35 hc35
          have hz_y4 := hb_y4.size
          have hS_y4 : y4.heap[KB]? = some (.cells #[.int .u8 k0, .int .u8 k1, .int .u8 k2, .int .u8 k3] 22 (0, 0)) := (hb_y4.block KB (by have z0 := hz0; have := hz_y1; have := hz_y2; have := hz_y3; have := hz_y4; have := HLD.out; omega)).trans hS_y3
          have hT_y4 : Below wD.heap.size wD y4 := hT_y3.trans (hb_y4.mono (by have z0 := hz0; have := hz_y1; have := hz_y2; have := hz_y3; have := hz_y4; have := HLD.out; omega))
          refine hK.out _ _ hS_y4 (fun hHeld => ?_)
          clear hK K
          refine norm_ (a' := ?_) ?_ ?_
          rotate_left
          · show Act.put _ (some 35) _ = _
            simp only [Act.put, List.setIfInBounds_toArray, List.set_cons_zero, List.set_cons_succ, i64_w, i32_w]
            rfl
          refine one_ (i := 11) (N := some 42) #[true, true, true, true, true, true, true, true, true, true, true, true, false, false, false] rfl rfl (by kernel_rfl) (by decide) (fun K hK => ?_)
          have hC_42 : Kd.C (Kd.int .u8) y4 _ b.length b := Kd.C_below (Kd.C_below HR1.out HBD.out) hT_y4
          refine Kd.R_append_rows_step (Kd.int .u8) (w0 := y4) y2.heap.size (by rfl) (.tmp 40) (.tmp 41) 23 5 (.int .u8 0) 1 rfl Try.underlying23 info5 rfl (by decide) (by omega) v40 [] b _ _ _ (fun _ => True) (fun _ => False) rfl rfl hR_40 hC_42 (fun _ _ h => h) (fun _ h => h.elim) (fun _ _ => trivial) (Below.refl _ _) (by have z0 := hz0; have := hz_y1; have := hz_y2; have := hz_y3; have := hz_y4; have := HLD.out; omega) (by rw [List.length_nil]; have := HS.out; omega) ?_
          intro v42 y5 hR_42 hb_y5 hg_y5 _
          rw [List.nil_append] at hR_42
          replace hR_35 := Kd.R_grown2 hR_35 rfl hg_y5 (fun k hk e_ => absurd (hL_40 k hk) (by have := Kd.R_base hR_35 k e_.symm; have z0 := hz0; have := hz_y1; have := hz_y2; have := hz_y3; have := hz_y4; have := HLD.out; omega))
          have hL_42 := Kd.R_lt hR_42
          clear hR_40
          have hz_y5 := hb_y5.size
          have hS_y5 : y5.heap[KB]? = some (.cells #[.int .u8 k0, .int .u8 k1, .int .u8 k2, .int .u8 k3] 22 (0, 0)) := (hb_y5.block KB (by have z0 := hz0; have := hz_y1; have := hz_y2; have := hz_y3; have := hz_y4; have := hz_y5; have := HLD.out; omega)).trans hS_y4
          have hT_y5 : Below wD.heap.size wD y5 := hT_y4.trans (hb_y5.mono (by have z0 := hz0; have := hz_y1; have := hz_y2; have := hz_y3; have := hz_y4; have := hz_y5; have := HLD.out; omega))
          refine hK.out _ _ hS_y5 (fun hHeld => ?_)
          clear hK K
          refine norm_ (a' := ?_) ?_ ?_
          rotate_left
          · show Act.put _ (some 42) _ = _
            simp only [Act.put, List.setIfInBounds_toArray, List.set_cons_zero, List.set_cons_succ, i64_w, i32_w]
            rfl
          refine one_ (i := 12) (N := some 43) #[true, true, true, true, true, true, true, true, true, true, true, true, true, false, false] rfl rfl (by kernel_rfl) (by decide) (fun K hK => ?_)
          obtain ⟨A43, c43, e43, hc43, hC43⟩ := Kd.R_reads hR_42
          subst e43
          refine goes_ Try.func4 (by kernel_rfl) rfl #[.agg #[.int .u8 k0, .int .u8 k1, .int .u8 k2, .int .u8 k3], .int .i64 m4, .slice A43 b.length c43] (by rfl) rfl rfl (by simp only [List.map_toArray, List.map_cons, List.map_nil]; rfl) ?_
          refine (impl_Mask.calls k0 k1 k2 k3 m4 A43 c43 b y5 (by have := HM4.out; omega) (by have := HS.out; omega) HBY.out.2.1 HBY.out.2.2 hC43 hc43).mono ?_
          rintro e y6 ⟨v43, rfl, hR_43, hb_y6⟩
          refine ⟨_, rfl, ?_⟩
          replace hR_35 := Kd.R_below hR_35 hb_y6
          have hL_43 := Kd.R_lt hR_43
          clear hR_42 hC43 hc43
          have hz_y6 := hb_y6.size
          have hS_y6 : y6.heap[KB]? = some (.cells #[.int .u8 k0, .int .u8 k1, .int .u8 k2, .int .u8 k3] 22 (0, 0)) := (hb_y6.block KB (by have z0 := hz0; have := hz_y1; have := hz_y2; have := hz_y3; have := hz_y4; have := hz_y5; have := hz_y6; have := HLD.out; omega)).trans hS_y5
          have hT_y6 : Below wD.heap.size wD y6 := hT_y5.trans (hb_y6.mono (by have z0 := hz0; have := hz_y1; have := hz_y2; have := hz_y3; have := hz_y4; have := hz_y5; have := hz_y6; have := HLD.out; omega))
          refine hK.out _ _ hS_y6 (fun hHeld => ?_)
          clear hK K
          refine norm_ (a' := ?_) ?_ ?_
          rotate_left
          · show Act.put _ (some 43) _ = _
            simp only [Act.put, List.setIfInBounds_toArray, List.set_cons_zero, List.set_cons_succ, i64_w, i32_w]
            rfl
          obtain ⟨AX, cX, eX, hcX, hCX⟩ := Kd.R_reads hR_35
          subst eX
          obtain ⟨AY, cY, eY, hcY, hCY⟩ := Kd.R_reads hR_43
          subst eY
          refine pure_ (i := 13) (N := some 8) (v := ?_) (a' := ?_) #[true, true, true, true, true, true, true, true, true, true, true, true, true, true, false] rfl rfl (by kernel_rfl) (fun _ _ _ h => h) (Or.inl ⟨by rfl, ?_⟩) ?_ ?_
          rotate_left
          · intro w'
            go_simp
            with_reducible rfl
          rotate_left
          · simp only [Act.put, List.setIfInBounds_toArray, List.set_cons_zero, List.set_cons_succ, i64_w, i32_w]
            rfl
          refine pure_ (i := 14) (N := some 9) (v := ?_) (a' := ?_) #[true, true, true, true, true, true, true, true, true, true, true, true, true, true, true] rfl rfl (by kernel_rfl) (fun _ _ _ h => h) (Or.inl ⟨by rfl, ?_⟩) ?_ ?_
          rotate_left
          · intro w'
            go_simp
            with_reducible rfl
          rotate_left
          · simp only [Act.put, List.setIfInBounds_toArray, List.set_cons_zero, List.set_cons_succ, i64_w, i32_w]
            rfl
          refine done_ (by kernel_rfl) ?_
          go_wp2_with fail
          go_meet
          exact ⟨AX, cX, AY, cY, rfl, rfl, ⟨hCX, hcX⟩, ⟨hCY, hcY⟩, ⟨hS_y6⟩, ⟨hT_y6⟩⟩
      · refine Kd.R_lit_step (Kd.int .u8) (w0 := y1) y1.heap.size 5 ?hg (N := 40) ?hd (xs := ([] : List Int)) (inner := []) (ok := fun _ => True) (okp := fun _ => True) ?hr ?hp (fun _ hk => hk) trivial (Below.refl _ _) (Nat.le_refl _) (by simp) ?_; (case hd => rfl); (case hg => rfl); (case hr => first | (go_simp; done) | (go_simp; rfl)); (case hp => exact (Reps.none _ _))
        intro v40 y2 hR_40 hb_y2 _ _
        replace hR_32 := Kd.R_below hR_32 hb_y2
        have hL_40 := Kd.R_lt hR_40
        have hz_y2 := hb_y2.size
        have hS_y2 : y2.heap[KB]? = some (.cells #[.int .u8 k0, .int .u8 k1, .int .u8 k2, .int .u8 k3] 22 (0, 0)) := (hb_y2.block KB (by have z0 := hz0; have := hz_y1; have := hz_y2; have := HLD.out; omega)).trans hS_y1
        have hT_y2 : Below wD.heap.size wD y2 := hT_y1.trans (hb_y2.mono (by have z0 := hz0; have := hz_y1; have := hz_y2; have := HLD.out; omega))
        refine hK.out _ _ hS_y2 (fun hHeld => ?_)
        clear hK K
        refine norm_ (a' := ?_) ?_ ?_
        rotate_left
        · show Act.put _ (some 40) _ = _
          simp only [Act.put, List.setIfInBounds_toArray, List.set_cons_zero, List.set_cons_succ, i64_w, i32_w]
          rfl
        refine one_ (i := 3) (N := some 34) #[true, true, true, true, false, true, true, true, true, true, true, false, false, false, false] rfl rfl (by kernel_rfl) (by decide) (fun K hK => ?_)
        have hC_34 : Kd.C (Kd.int .u8) y2 _ a.length a := Kd.C_below (Kd.C_below HR0.out HBD.out) hT_y2
        refine Kd.R_append_rows_step (Kd.int .u8) (w0 := y2) yD.heap.size (by rfl) (.tmp 32) (.tmp 33) 23 5 (.int .u8 0) 1 rfl Try.underlying23 info5 rfl (by decide) (by omega) v32 [] a _ _ _ (fun _ => True) (fun _ => False) rfl rfl hR_32 hC_34 (fun _ _ h => h) (fun _ h => h.elim) (fun _ _ => trivial) (Below.refl _ _) (by have z0 := hz0; have := hz_y1; have := hz_y2; have := HLD.out; omega) (by rw [List.length_nil]; have := HS.out; omega) ?_
        intro v34 y3 hR_34 hb_y3 hg_y3 _
        rw [List.nil_append] at hR_34
        replace hR_40 := Kd.R_grown2 hR_40 rfl hg_y3 (fun k hk e_ => absurd (hL_32 k hk) (by have := Kd.R_base hR_40 k e_.symm; have z0 := hz0; have := hz_y1; have := hz_y2; have := HLD.out; omega))
        have hL_34 := Kd.R_lt hR_34
        clear hR_32
        have hz_y3 := hb_y3.size
        have hS_y3 : y3.heap[KB]? = some (.cells #[.int .u8 k0, .int .u8 k1, .int .u8 k2, .int .u8 k3] 22 (0, 0)) := (hb_y3.block KB (by have z0 := hz0; have := hz_y1; have := hz_y2; have := hz_y3; have := HLD.out; omega)).trans hS_y2
        have hT_y3 : Below wD.heap.size wD y3 := hT_y2.trans (hb_y3.mono (by have z0 := hz0; have := hz_y1; have := hz_y2; have := hz_y3; have := HLD.out; omega))
        refine hK.out _ _ hS_y3 (fun hHeld => ?_)
        clear hK K
        refine norm_ (a' := ?_) ?_ ?_
        rotate_left
        · show Act.put _ (some 34) _ = _
          simp only [Act.put, List.setIfInBounds_toArray, List.set_cons_zero, List.set_cons_succ, i64_w, i32_w]
          rfl
        refine one_ (i := 4) (N := some 35) #[true, true, true, true, true, true, true, true, true, true, true, false, false, false, false] rfl rfl (by kernel_rfl) (by decide) (fun K hK => ?_)
        obtain ⟨A35, c35, e35, hc35, hC35⟩ := Kd.R_reads hR_34
        subst e35
        refine goes_ Try.func4 (by kernel_rfl) rfl #[.agg #[.int .u8 k0, .int .u8 k1, .int .u8 k2, .int .u8 k3], .int .i64 0, .slice A35 a.length c35] (by rfl) rfl rfl (by simp only [List.map_toArray, List.map_cons, List.map_nil]; rfl) ?_
        refine (impl_Mask.calls k0 k1 k2 k3 0 A35 c35 a y3 (by have := HM4.out; omega) (by have := HS.out; omega) HBY.out.1 HBY.out.2.2 hC35 hc35).mono ?_
        rintro e y4 ⟨v35, rfl, hR_35, hb_y4⟩
        refine ⟨_, rfl, ?_⟩
        replace hR_40 := Kd.R_below hR_40 hb_y4
        have hL_35 := Kd.R_lt hR_35
        clear hR_34 hC35 hc35
        have hz_y4 := hb_y4.size
        have hS_y4 : y4.heap[KB]? = some (.cells #[.int .u8 k0, .int .u8 k1, .int .u8 k2, .int .u8 k3] 22 (0, 0)) := (hb_y4.block KB (by have z0 := hz0; have := hz_y1; have := hz_y2; have := hz_y3; have := hz_y4; have := HLD.out; omega)).trans hS_y3
        have hT_y4 : Below wD.heap.size wD y4 := hT_y3.trans (hb_y4.mono (by have z0 := hz0; have := hz_y1; have := hz_y2; have := hz_y3; have := hz_y4; have := HLD.out; omega))
        refine hK.out _ _ hS_y4 (fun hHeld => ?_)
        clear hK K
        refine norm_ (a' := ?_) ?_ ?_
        rotate_left
        · show Act.put _ (some 35) _ = _
          simp only [Act.put, List.setIfInBounds_toArray, List.set_cons_zero, List.set_cons_succ, i64_w, i32_w]
          rfl
        refine one_ (i := 11) (N := some 42) #[true, true, true, true, true, true, true, true, true, true, true, true, false, false, false] rfl rfl (by kernel_rfl) (by decide) (fun K hK => ?_)
        have hC_42 : Kd.C (Kd.int .u8) y4 _ b.length b := Kd.C_below (Kd.C_below HR1.out HBD.out) hT_y4
        refine Kd.R_append_rows_step (Kd.int .u8) (w0 := y4) y1.heap.size (by rfl) (.tmp 40) (.tmp 41) 23 5 (.int .u8 0) 1 rfl Try.underlying23 info5 rfl (by decide) (by omega) v40 [] b _ _ _ (fun _ => True) (fun _ => False) rfl rfl hR_40 hC_42 (fun _ _ h => h) (fun _ h => h.elim) (fun _ _ => trivial) (Below.refl _ _) (by have z0 := hz0; have := hz_y1; have := hz_y2; have := hz_y3; have := hz_y4; have := HLD.out; omega) (by rw [List.length_nil]; have := HS.out; omega) ?_
        intro v42 y5 hR_42 hb_y5 hg_y5 _
        rw [List.nil_append] at hR_42
        replace hR_35 := Kd.R_grown2 hR_35 rfl hg_y5 (fun k hk e_ => absurd (hL_40 k hk) (by have := Kd.R_base hR_35 k e_.symm; have z0 := hz0; have := hz_y1; have := hz_y2; have := hz_y3; have := hz_y4; have := HLD.out; omega))
        have hL_42 := Kd.R_lt hR_42
        clear hR_40
        have hz_y5 := hb_y5.size
        have hS_y5 : y5.heap[KB]? = some (.cells #[.int .u8 k0, .int .u8 k1, .int .u8 k2, .int .u8 k3] 22 (0, 0)) := (hb_y5.block KB (by have z0 := hz0; have := hz_y1; have := hz_y2; have := hz_y3; have := hz_y4; have := hz_y5; have := HLD.out; omega)).trans hS_y4
        have hT_y5 : Below wD.heap.size wD y5 := hT_y4.trans (hb_y5.mono (by have z0 := hz0; have := hz_y1; have := hz_y2; have := hz_y3; have := hz_y4; have := hz_y5; have := HLD.out; omega))
        refine hK.out _ _ hS_y5 (fun hHeld => ?_)
        clear hK K
        refine norm_ (a' := ?_) ?_ ?_
        rotate_left
        · show Act.put _ (some 42) _ = _
          simp only [Act.put, List.setIfInBounds_toArray, List.set_cons_zero, List.set_cons_succ, i64_w, i32_w]
          rfl
        refine one_ (i := 12) (N := some 43) #[true, true, true, true, true, true, true, true, true, true, true, true, true, false, false] rfl rfl (by kernel_rfl) (by decide) (fun K hK => ?_)
        obtain ⟨A43, c43, e43, hc43, hC43⟩ := Kd.R_reads hR_42
        subst e43
        refine goes_ Try.func4 (by kernel_rfl) rfl #[.agg #[.int .u8 k0, .int .u8 k1, .int .u8 k2, .int .u8 k3], .int .i64 m4, .slice A43 b.length c43] (by rfl) rfl rfl (by simp only [List.map_toArray, List.map_cons, List.map_nil]; rfl) ?_
        refine (impl_Mask.calls k0 k1 k2 k3 m4 A43 c43 b y5 (by have := HM4.out; omega) (by have := HS.out; omega) HBY.out.2.1 HBY.out.2.2 hC43 hc43).mono ?_
        rintro e y6 ⟨v43, rfl, hR_43, hb_y6⟩
        refine ⟨_, rfl, ?_⟩
        replace hR_35 := Kd.R_below hR_35 hb_y6
        have hL_43 := Kd.R_lt hR_43
        clear hR_42 hC43 hc43
        have hz_y6 := hb_y6.size
        have hS_y6 : y6.heap[KB]? = some (.cells #[.int .u8 k0, .int .u8 k1, .int .u8 k2, .int .u8 k3] 22 (0, 0)) := (hb_y6.block KB (by have z0 := hz0; have := hz_y1; have := hz_y2; have := hz_y3; have := hz_y4; have := hz_y5; have := hz_y6; have := HLD.out; omega)).trans hS_y5
        have hT_y6 : Below wD.heap.size wD y6 := hT_y5.trans (hb_y6.mono (by have z0 := hz0; have := hz_y1; have := hz_y2; have := hz_y3; have := hz_y4; have := hz_y5; have := hz_y6; have := HLD.out; omega))
        refine hK.out _ _ hS_y6 (fun hHeld => ?_)
        clear hK K
        refine norm_ (a' := ?_) ?_ ?_
        rotate_left
        · show Act.put _ (some 43) _ = _
          simp only [Act.put, List.setIfInBounds_toArray, List.set_cons_zero, List.set_cons_succ, i64_w, i32_w]
          rfl
        obtain ⟨AX, cX, eX, hcX, hCX⟩ := Kd.R_reads hR_35
        subst eX
        obtain ⟨AY, cY, eY, hcY, hCY⟩ := Kd.R_reads hR_43
        subst eY
        refine pure_ (i := 13) (N := some 8) (v := ?_) (a' := ?_) #[true, true, true, true, true, true, true, true, true, true, true, true, true, true, false] rfl rfl (by kernel_rfl) (fun _ _ _ h => h) (Or.inl ⟨by rfl, ?_⟩) ?_ ?_
        rotate_left
        · intro w'
          go_simp
          with_reducible rfl
        rotate_left
        · simp only [Act.put, List.setIfInBounds_toArray, List.set_cons_zero, List.set_cons_succ, i64_w, i32_w]
          rfl
        refine pure_ (i := 14) (N := some 9) (v := ?_) (a' := ?_) #[true, true, true, true, true, true, true, true, true, true, true, true, true, true, true] rfl rfl (by kernel_rfl) (fun _ _ _ h => h) (Or.inl ⟨by rfl, ?_⟩) ?_ ?_
        rotate_left
        · intro w'
          go_simp
          with_reducible rfl
        rotate_left
        · simp only [Act.put, List.setIfInBounds_toArray, List.set_cons_zero, List.set_cons_succ, i64_w, i32_w]
          rfl
        refine done_ (by kernel_rfl) ?_
        go_wp2_with fail
        go_meet
        exact ⟨AX, cX, AY, cY, rfl, rfl, ⟨hCX, hcX⟩, ⟨hCY, hcY⟩, ⟨hS_y6⟩, ⟨hT_y6⟩⟩
    · refine Kd.R_lit_step (Kd.int .u8) (w0 := yD) yD.heap.size 5 ?hg (N := 40) ?hd (xs := ([] : List Int)) (inner := []) (ok := fun _ => True) (okp := fun _ => True) ?hr ?hp (fun _ hk => hk) trivial (Below.refl _ _) (Nat.le_refl _) (by simp) ?_; (case hd => rfl); (case hg => rfl); (case hr => first | (go_simp; done) | (go_simp; rfl)); (case hp => exact (Reps.none _ _))
      intro v40 y1 hR_40 hb_y1 _ _
      have hL_40 := Kd.R_lt hR_40
      have hz_y1 := hb_y1.size
      have hS_y1 : y1.heap[KB]? = some (.cells #[.int .u8 k0, .int .u8 k1, .int .u8 k2, .int .u8 k3] 22 (0, 0)) := (hb_y1.block KB (by have z0 := hz0; have := hz_y1; have := HLD.out; omega)).trans hS_yD
      have hT_y1 : Below wD.heap.size wD y1 := hT_yD.trans (hb_y1.mono (by have z0 := hz0; have := hz_y1; have := HLD.out; omega))
      refine hK.out _ _ hS_y1 (fun hHeld => ?_)
      clear hK K
      refine norm_ (a' := ?_) ?_ ?_
      rotate_left
      · show Act.put _ (some 40) _ = _
        simp only [Act.put, List.setIfInBounds_toArray, List.set_cons_zero, List.set_cons_succ, i64_w, i32_w]
        rfl
      refine one_ (i := 1) (N := some 32) #[true, true, true, false, false, true, true, true, true, true, true, false, false, false, false] rfl rfl (by kernel_rfl) (by decide) (fun K hK => ?_)
      refine Kd.R_lit_step (Kd.int .u8) (w0 := y1) y1.heap.size 5 ?hg (N := 32) ?hd (xs := ([] : List Int)) (inner := []) (ok := fun _ => True) (okp := fun _ => True) ?hr ?hp (fun _ hk => hk) trivial (Below.refl _ _) (Nat.le_refl _) (by simp) ?_; (case hd => rfl); (case hg => rfl); (case hr => first | (go_simp; done) | (go_simp; rfl)); (case hp => exact (Reps.none _ _))
      intro v32 y2 hR_32 hb_y2 _ _
      replace hR_40 := Kd.R_below hR_40 hb_y2
      have hL_32 := Kd.R_lt hR_32
      have hz_y2 := hb_y2.size
      have hS_y2 : y2.heap[KB]? = some (.cells #[.int .u8 k0, .int .u8 k1, .int .u8 k2, .int .u8 k3] 22 (0, 0)) := (hb_y2.block KB (by have z0 := hz0; have := hz_y1; have := hz_y2; have := HLD.out; omega)).trans hS_y1
      have hT_y2 : Below wD.heap.size wD y2 := hT_y1.trans (hb_y2.mono (by have z0 := hz0; have := hz_y1; have := hz_y2; have := HLD.out; omega))
      refine hK.out _ _ hS_y2 (fun hHeld => ?_)
      clear hK K
      refine norm_ (a' := ?_) ?_ ?_
      rotate_left
      · show Act.put _ (some 32) _ = _
        simp only [Act.put, List.setIfInBounds_toArray, List.set_cons_zero, List.set_cons_succ, i64_w, i32_w]
        rfl
      refine one_ (i := 3) (N := some 34) #[true, true, true, true, false, true, true, true, true, true, true, false, false, false, false] rfl rfl (by kernel_rfl) (by decide) (fun K hK => ?_)
      have hC_34 : Kd.C (Kd.int .u8) y2 _ a.length a := Kd.C_below (Kd.C_below HR0.out HBD.out) hT_y2
      refine Kd.R_append_rows_step (Kd.int .u8) (w0 := y2) y1.heap.size (by rfl) (.tmp 32) (.tmp 33) 23 5 (.int .u8 0) 1 rfl Try.underlying23 info5 rfl (by decide) (by omega) v32 [] a _ _ _ (fun _ => True) (fun _ => False) rfl rfl hR_32 hC_34 (fun _ _ h => h) (fun _ h => h.elim) (fun _ _ => trivial) (Below.refl _ _) (by have z0 := hz0; have := hz_y1; have := hz_y2; have := HLD.out; omega) (by rw [List.length_nil]; have := HS.out; omega) ?_
      intro v34 y3 hR_34 hb_y3 hg_y3 _
      rw [List.nil_append] at hR_34
      replace hR_40 := Kd.R_grown2 hR_40 rfl hg_y3 (fun k hk e_ => absurd (hL_40 k e_.symm) (by have := Kd.R_base hR_32 k hk; have z0 := hz0; have := hz_y1; have := hz_y2; have := HLD.out; omega))
      have hL_34 := Kd.R_lt hR_34
      clear hR_32
      have hz_y3 := hb_y3.size
      have hS_y3 : y3.heap[KB]? = some (.cells #[.int .u8 k0, .int .u8 k1, .int .u8 k2, .int .u8 k3] 22 (0, 0)) := (hb_y3.block KB (by have z0 := hz0; have := hz_y1; have := hz_y2; have := hz_y3; have := HLD.out; omega)).trans hS_y2
      have hT_y3 : Below wD.heap.size wD y3 := hT_y2.trans (hb_y3.mono (by have z0 := hz0; have := hz_y1; have := hz_y2; have := hz_y3; have := HLD.out; omega))
      refine hK.out _ _ hS_y3 (fun hHeld => ?_)
      clear hK K
      refine norm_ (a' := ?_) ?_ ?_
      rotate_left
      · show Act.put _ (some 34) _ = _
        simp only [Act.put, List.setIfInBounds_toArray, List.set_cons_zero, List.set_cons_succ, i64_w, i32_w]
        rfl
      refine one_ (i := 4) (N := some 35) #[true, true, true, true, true, true, true, true, true, true, true, false, false, false, false] rfl rfl (by kernel_rfl) (by decide) (fun K hK => ?_)
      obtain ⟨A35, c35, e35, hc35, hC35⟩ := Kd.R_reads hR_34
      subst e35
      refine goes_ Try.func4 (by kernel_rfl) rfl #[.agg #[.int .u8 k0, .int .u8 k1, .int .u8 k2, .int .u8 k3], .int .i64 0, .slice A35 a.length c35] (by rfl) rfl rfl (by simp only [List.map_toArray, List.map_cons, List.map_nil]; rfl) ?_
      refine (impl_Mask.calls k0 k1 k2 k3 0 A35 c35 a y3 (by have := HM4.out; omega) (by have := HS.out; omega) HBY.out.1 HBY.out.2.2 hC35 hc35).mono ?_
      rintro e y4 ⟨v35, rfl, hR_35, hb_y4⟩
      refine ⟨_, rfl, ?_⟩
      replace hR_40 := Kd.R_below hR_40 hb_y4
      have hL_35 := Kd.R_lt hR_35
      clear hR_34 hC35 hc35
      have hz_y4 := hb_y4.size
      have hS_y4 : y4.heap[KB]? = some (.cells #[.int .u8 k0, .int .u8 k1, .int .u8 k2, .int .u8 k3] 22 (0, 0)) := (hb_y4.block KB (by have z0 := hz0; have := hz_y1; have := hz_y2; have := hz_y3; have := hz_y4; have := HLD.out; omega)).trans hS_y3
      have hT_y4 : Below wD.heap.size wD y4 := hT_y3.trans (hb_y4.mono (by have z0 := hz0; have := hz_y1; have := hz_y2; have := hz_y3; have := hz_y4; have := HLD.out; omega))
      refine hK.out _ _ hS_y4 (fun hHeld => ?_)
      clear hK K
      refine norm_ (a' := ?_) ?_ ?_
      rotate_left
      · show Act.put _ (some 35) _ = _
        simp only [Act.put, List.setIfInBounds_toArray, List.set_cons_zero, List.set_cons_succ, i64_w, i32_w]
        rfl
      refine one_ (i := 11) (N := some 42) #[true, true, true, true, true, true, true, true, true, true, true, true, false, false, false] rfl rfl (by kernel_rfl) (by decide) (fun K hK => ?_)
      have hC_42 : Kd.C (Kd.int .u8) y4 _ b.length b := Kd.C_below (Kd.C_below HR1.out HBD.out) hT_y4
      refine Kd.R_append_rows_step (Kd.int .u8) (w0 := y4) yD.heap.size (by rfl) (.tmp 40) (.tmp 41) 23 5 (.int .u8 0) 1 rfl Try.underlying23 info5 rfl (by decide) (by omega) v40 [] b _ _ _ (fun _ => True) (fun _ => False) rfl rfl hR_40 hC_42 (fun _ _ h => h) (fun _ h => h.elim) (fun _ _ => trivial) (Below.refl _ _) (by have z0 := hz0; have := hz_y1; have := hz_y2; have := hz_y3; have := hz_y4; have := HLD.out; omega) (by rw [List.length_nil]; have := HS.out; omega) ?_
      intro v42 y5 hR_42 hb_y5 hg_y5 _
      rw [List.nil_append] at hR_42
      replace hR_35 := Kd.R_grown2 hR_35 rfl hg_y5 (fun k hk e_ => absurd (hL_40 k hk) (by have := Kd.R_base hR_35 k e_.symm; have z0 := hz0; have := hz_y1; have := hz_y2; have := hz_y3; have := hz_y4; have := HLD.out; omega))
      have hL_42 := Kd.R_lt hR_42
      clear hR_40
      have hz_y5 := hb_y5.size
      have hS_y5 : y5.heap[KB]? = some (.cells #[.int .u8 k0, .int .u8 k1, .int .u8 k2, .int .u8 k3] 22 (0, 0)) := (hb_y5.block KB (by have z0 := hz0; have := hz_y1; have := hz_y2; have := hz_y3; have := hz_y4; have := hz_y5; have := HLD.out; omega)).trans hS_y4
      have hT_y5 : Below wD.heap.size wD y5 := hT_y4.trans (hb_y5.mono (by have z0 := hz0; have := hz_y1; have := hz_y2; have := hz_y3; have := hz_y4; have := hz_y5; have := HLD.out; omega))
      refine hK.out _ _ hS_y5 (fun hHeld => ?_)
      clear hK K
      refine norm_ (a' := ?_) ?_ ?_
      rotate_left
      · show Act.put _ (some 42) _ = _
        simp only [Act.put, List.setIfInBounds_toArray, List.set_cons_zero, List.set_cons_succ, i64_w, i32_w]
        rfl
      refine one_ (i := 12) (N := some 43) #[true, true, true, true, true, true, true, true, true, true, true, true, true, false, false] rfl rfl (by kernel_rfl) (by decide) (fun K hK => ?_)
      obtain ⟨A43, c43, e43, hc43, hC43⟩ := Kd.R_reads hR_42
      subst e43
      refine goes_ Try.func4 (by kernel_rfl) rfl #[.agg #[.int .u8 k0, .int .u8 k1, .int .u8 k2, .int .u8 k3], .int .i64 m4, .slice A43 b.length c43] (by rfl) rfl rfl (by simp only [List.map_toArray, List.map_cons, List.map_nil]; rfl) ?_
      refine (impl_Mask.calls k0 k1 k2 k3 m4 A43 c43 b y5 (by have := HM4.out; omega) (by have := HS.out; omega) HBY.out.2.1 HBY.out.2.2 hC43 hc43).mono ?_
      rintro e y6 ⟨v43, rfl, hR_43, hb_y6⟩
      refine ⟨_, rfl, ?_⟩
      replace hR_35 := Kd.R_below hR_35 hb_y6
      have hL_43 := Kd.R_lt hR_43
      clear hR_42 hC43 hc43
      have hz_y6 := hb_y6.size
      have hS_y6 : y6.heap[KB]? = some (.cells #[.int .u8 k0, .int .u8 k1, .int .u8 k2, .int .u8 k3] 22 (0, 0)) := (hb_y6.block KB (by have z0 := hz0; have := hz_y1; have := hz_y2; have := hz_y3; have := hz_y4; have := hz_y5; have := hz_y6; have := HLD.out; omega)).trans hS_y5
      have hT_y6 : Below wD.heap.size wD y6 := hT_y5.trans (hb_y6.mono (by have z0 := hz0; have := hz_y1; have := hz_y2; have := hz_y3; have := hz_y4; have := hz_y5; have := hz_y6; have := HLD.out; omega))
      refine hK.out _ _ hS_y6 (fun hHeld => ?_)
      clear hK K
      refine norm_ (a' := ?_) ?_ ?_
      rotate_left
      · show Act.put _ (some 43) _ = _
        simp only [Act.put, List.setIfInBounds_toArray, List.set_cons_zero, List.set_cons_succ, i64_w, i32_w]
        rfl
      obtain ⟨AX, cX, eX, hcX, hCX⟩ := Kd.R_reads hR_35
      subst eX
      obtain ⟨AY, cY, eY, hcY, hCY⟩ := Kd.R_reads hR_43
      subst eY
      refine pure_ (i := 13) (N := some 8) (v := ?_) (a' := ?_) #[true, true, true, true, true, true, true, true, true, true, true, true, true, true, false] rfl rfl (by kernel_rfl) (fun _ _ _ h => h) (Or.inl ⟨by rfl, ?_⟩) ?_ ?_
      rotate_left
      · intro w'
        go_simp
        with_reducible rfl
      rotate_left
      · simp only [Act.put, List.setIfInBounds_toArray, List.set_cons_zero, List.set_cons_succ, i64_w, i32_w]
        rfl
      refine pure_ (i := 14) (N := some 9) (v := ?_) (a' := ?_) #[true, true, true, true, true, true, true, true, true, true, true, true, true, true, true] rfl rfl (by kernel_rfl) (fun _ _ _ h => h) (Or.inl ⟨by rfl, ?_⟩) ?_ ?_
      rotate_left
      · intro w'
        go_simp
        with_reducible rfl
      rotate_left
      · simp only [Act.put, List.setIfInBounds_toArray, List.set_cons_zero, List.set_cons_succ, i64_w, i32_w]
        rfl
      refine done_ (by kernel_rfl) ?_
      go_wp2_with fail
      go_meet
      exact ⟨AX, cX, AY, cY, rfl, rfl, ⟨hCX, hcX⟩, ⟨hCY, hcY⟩, ⟨hS_y6⟩, ⟨hT_y6⟩⟩
  case rest =>
    obtain ⟨AX, cX, AY, cY, rfl, rfl, HX, HY, HSc, HTc⟩ := hcut
    have HBc := Aside0.mk (below_step HBD.out HTc.out)
    have HCM := Aside0.mk (Kd.C_below HCD.out.2 HTc.out)
    have HML := Aside0.mk HCD.out.1
    have HSB2 := HSB
    have hml : (maskL (ksOf k0 k1 k2 k3) 0 (a ++ b)).length = s := by rw [maskL_len, List.length_append]; exact HS.out.1.symm
    have qe : (((maskL (ksOf k0 k1 k2 k3) 0 (a ++ b)).length : Int) == (s : Int)) = true := beq_iff_eq.2 (by rw [hml])
    have qe2 : decide ((maskL (ksOf k0 k1 k2 k3) 0 (a ++ b)).length = s) = true := decide_eq_true hml
    obtain ⟨M, hM⟩ : ∃ M, M = maskL (ksOf k0 k1 k2 k3) 0 (a ++ b) := ⟨_, rfl⟩
    obtain ⟨X, hX⟩ : ∃ X, X = maskL (ksOf k0 k1 k2 k3) 0 a := ⟨_, rfl⟩
    obtain ⟨Y, hY⟩ : ∃ Y, Y = maskL (ksOf k0 k1 k2 k3) m4 b := ⟨_, rfl⟩
    have hXY : X ++ Y = M := by rw [hX, hY, hM, HM4.out, maskL_app]
    have hXL : X.length + Y.length ≤ 400 := by rw [hX, hY, maskL_len, maskL_len]; have := HS.out; omega
    rw [← hM] at HCM HML qe qe2 HSB2 ⊢
    rw [← hX] at HX ⊢
    rw [← hY] at HY ⊢
    have HXY := Aside0.mk (And.intro hXY hXL)
    clear hM hX hY hXY hXL hml HCD HSD HTc HSB
    go_wp2_with (first
      | ((with_reducible refine gate_dst (N := 45) rfl ?_); refine Kd.R_lit (Kd.int .u8) (w0 := wc) wc.heap.size 5 ?hg (N := 45) ?hd (xs := ([] : List Int)) (inner := []) (ok := fun _ => True) (okp := fun _ => True) ?hr ?hp (fun _ hk => hk) trivial (Below.refl _ _) (Nat.le_refl _) (by simp) ?_; (case hd => rfl); (case hg => rfl); (case hr => first | (go_simp; done) | (go_simp; rfl)); (case hp => exact (Reps.none _ _)); intro v45 z1 hR_45 hb_z1 _ _; have HR45 := Aside0.mk hR_45; have HZ1 := Aside0.mk hb_z1; clear hR_45 hb_z1)
      | ((with_reducible refine gate_builtin (b := .append) (xs := #[.tmp 45, .tmp 46]) rfl ?_); at_builtin; refine Kd.R_append_rows (Kd.int .u8) (w0 := wc) wc.heap.size rfl (.tmp 45) (.tmp 46) 23 5 (.int .u8 0) 1 rfl Try.underlying23 info5 rfl (by decide) (by omega) v45 [] X _ _ _ (fun _ => True) (fun _ => False) rfl rfl HR45.out (Kd.C_below HX.out.1 HZ1.out) (fun _ _ h => h) (fun _ h => h.elim) (fun _ _ => trivial) HZ1.out HZ1.out.size (by rw [List.length_nil]; have := HXY.out.2; omega) ?_; intro v47 z2 hR_47 hb_z2 _ _; rw [List.nil_append] at hR_47; have HR47 := Aside0.mk hR_47; have HZ2 := Aside0.mk hb_z2; clear hR_47 hb_z2)
      | ((with_reducible refine gate_builtin (b := .append) (xs := #[.tmp 47, .tmp 48]) rfl ?_); at_builtin; refine Kd.R_append_rows (Kd.int .u8) (w0 := wc) wc.heap.size rfl (.tmp 47) (.tmp 48) 23 5 (.int .u8 0) 1 rfl Try.underlying23 info5 rfl (by decide) (by omega) v47 X Y _ _ _ (fun _ => True) (fun _ => False) rfl rfl HR47.out (Kd.C_below HY.out.1 HZ2.out) (fun _ _ h => h) (fun _ h => h.elim) (fun _ _ => trivial) HZ2.out HZ2.out.size (by have := HXY.out.2; omega) ?_; intro v49 z3 hR_49 hb_z3 _ _; rw [HXY.out.1] at hR_49; obtain ⟨AZ, cZ, eZ, hcZ, hCZ⟩ := Kd.R_reads hR_49; subst eZ; have HCZ := Aside0.mk (And.intro hcZ hCZ); have HZ3 := Aside0.mk hb_z3; clear hR_49 hb_z3 hcZ hCZ))
    refine (laws_sameBytes.calls k AD cD M AZ cZ M true z3 (Kd.C_below HCM.out HZ3.out) HML.out HCZ.out.2 HCZ.out.1 HSB2.out).mono ?_
    rintro e z4 ⟨rfl, ⟨nd, rfl⟩⟩
    have hS4 : (z3.drewN nd).heap[KB]? = some (.cells #[.int .u8 k0, .int .u8 k1, .int .u8 k2, .int .u8 k3] 22 (0, 0)) := (HZ3.out.block KB (Array.getElem?_eq_some_iff.1 HSc.out).1).trans HSc.out
    have HB4 := Aside0.mk (pw_below_drewN (below_step HBc.out HZ3.out) nd)
    generalize z3.drewN nd = z4 at hS4 HB4 ⊢
    have HS4 := Aside0.mk hS4
    have d0 := cell_of_row z4 KB 0 _ _ _ hS4
    have d1 := cell_of_row z4 KB 1 _ _ _ hS4
    have d2 := cell_of_row z4 KB 2 _ _ _ hS4
    have d3 := cell_of_row z4 KB 3 _ _ _ hS4
    clear hS4
    go_wp2_with fail
    have hR1 : Kd.R (Kd.int .u8) 5 (z4.alloc (.cells #[.int .u8 1] 5)) z4.heap.size (fun _ => True) (.slice (some ⟨z4.heap.size, 0, none⟩) 1 1) [1] := Kd.R_of_own (enc := Value.int .u8) ⟨rfl, .inr ⟨z4.heap.size, 1, #[.int .u8 1], rfl, Nat.le_refl _, heap_alloc_new _ _, Nat.le_refl _, by decide, rfl, rfl⟩⟩ (fun _ _ => trivial)
    obtain ⟨A1_, c1_, e1_, hc1_, hC1_⟩ := Kd.R_reads hR1
    injection e1_ with e1_ e2_ e3_
    clear e2_
    subst e1_ e3_
    refine (impl_Mask.calls k0 k1 k2 k3 0 _ 1 [1] _ (by omega) (by decide) (fun z hz => by obtain rfl := List.mem_singleton.1 hz; exact ⟨by omega, by omega⟩) HBY.out.2.2 hC1_ hc1_).mono ?_
    rintro e z5 ⟨v5, rfl, hR5, hb5⟩
    obtain ⟨A5, c5, rfl⟩ := Kd.R_slice hR5
    rw [show (maskL (ksOf k0 k1 k2 k3) 0 [1]).length = 1 from maskL_len _ _ _]
    have HB5 := Aside0.mk (below_step HB4.out ((Below.refl z4.heap.size z4).alloc (Nat.le_refl _) (.cells #[.int .u8 1] 5 (0, 0)) |>.trans (hb5.mono (by simp))))
    clear hR1 hC1_ hc1_ hR5 hb5 d0 d1 d2 d3 erem erem1 erem2 erem3 qe qe2 es q1 q1n q2 q2n q3 q3n
    go_wp2_with fail
    go_ret
    exact ⟨rfl, HB5.out⟩

def laws_FnMaskParts.f (k : Nat) (key : Int × Int × Int × Int) (a b : List Int) : Option Bool :=
  if 2147483647 < a.length then some true else if 2147483647 < b.length then some true else if 400 < a.length + b.length then some true else
  laws_sameBytes.f k (maskL (ksOf key.1 key.2.1 key.2.2.1 key.2.2.2) 0 (a ++ b)) (maskL (ksOf key.1 key.2.1 key.2.2.1 key.2.2.2) 0 (a ++ b))
theorem FM_all (k0 k1 k2 k3 : Int) (A0 : Option Addr) (c0 : Nat) (a : List Int) (A1 : Option Addr) (c1 : Nat) (b : List Int) (w : World) (hr0 : Kd.C (Kd.int .u8) w A0 a.length a) (hc0 : a.length ≤ c0) (hr1 : Kd.C (Kd.int .u8) w A1 b.length b) (hc1 : b.length ≤ c1)
    (hab : ∀ z ∈ a, 0 ≤ z ∧ z ≤ 255) (hbb : ∀ z ∈ b, 0 ≤ z ∧ z ≤ 255) (hks : ∀ j, 0 ≤ ksOf k0 k1 k2 k3 j ∧ ksOf k0 k1 k2 k3 j ≤ 255) (k : Nat) (h : laws_FnMaskParts.f k (k0, k1, k2, k3) a b = some true) :
    Calls Try.prog 3 #[.agg #[.int .u8 k0, .int .u8 k1, .int .u8 k2, .int .u8 k3], .slice A0 a.length c0, .slice A1 b.length c1] w fun e w' => e = .returned (.bool true) ∧ Below w.heap.size w w' := by
  unfold laws_FnMaskParts.f at h
  by_cases h1 : 2147483647 < a.length
  · exact FM_A k0 k1 k2 k3 A0 c0 a A1 c1 b w hr0 hc0 hr1 hc1 h1
  by_cases h2 : 2147483647 < b.length
  · exact FM_B k0 k1 k2 k3 A0 c0 a A1 c1 b w hr0 hc0 hr1 hc1 h1 h2
  by_cases h3 : 400 < a.length + b.length
  · exact FM_C k0 k1 k2 k3 A0 c0 a A1 c1 b w hr0 hc0 hr1 hc1 h1 h2 h3
  rw [if_neg h1, if_neg h2, if_neg h3] at h
  exact FM_D k0 k1 k2 k3 A0 c0 a A1 c1 b w hr0 hc0 hr1 hc1 h1 h2 h3 hab hbb hks k h

end Go.Proofs.Ytchajidblfakiaa.MaskL
