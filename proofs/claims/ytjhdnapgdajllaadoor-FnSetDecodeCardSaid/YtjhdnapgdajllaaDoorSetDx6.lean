/- WALKS: impl.SetDecode, whatever the bytes. -/
import Derived.Test.YtjhdnapgdajllaaDoorProg
import Derived.Below
import Derived.Deep.Draws
import Derived.Deep.AppendLies
import Derived.Maps.AppendAt
import Derived.OwnWalk
import Derived.Laws.BytesArg
import Derived.Laws.MakeOwn
import Derived.Laws.OwnMore
import Derived.Deep.OwnRows
import Derived.Tactics
import Derived.Lib.ConvBytes
import Derived.Laws.Slices
import Derived.WalkKit
import Derived.KernelRfl
import Derived.RowKit3
import Derived.Deep.LoopGhost
import Derived.Deep.QuietTactic
import Derived.BigQuiet
import Derived.WideLaws
import Derived.Deep.DeepCutAuto
import Derived.Deep.CutBlock
import Derived.Deep.RegionHeld3
import Derived.Laws.Rows
import Derived.Lib.AppendStr
import Derived.ArgAppend
import Derived.Laws.IdiomCopy
import Derived.OrdersHeld
import Derived.Laws.BitsLemmas
import Derived.RowKit
import Derived.Test.YtjhdnapgdajllaaDoorWWords
import Derived.Test.YtjhdnapgdajllaaDoorWLast
import Derived.Test.YtjhdnapgdajllaaDoorWTab
import Derived.Test.YtjhdnapgdajllaaDoorWFour
import Derived.Test.YtjhdnapgdajllaaDoorWQPut
import Derived.Test.YtjhdnapgdajllaaDoorWApart
import Derived.Test.YtjhdnapgdajllaaDoorWArr
import Derived.Test.YtjhdnapgdajllaaDoorWZeros
import Derived.Test.YtjhdnapgdajllaaDoorWFoot
import Derived.Test.YtjhdnapgdajllaaDoorWKept
import Derived.Test.YtjhdnapgdajllaaDoorWShare
import Derived.Test.YtjhdnapgdajllaaDoorWN
import Derived.Test.YtjhdnapgdajllaaDoorWFootNe
import Derived.Test.YtjhdnapgdajllaaDoorWAt
import Derived.Test.YtjhdnapgdajllaaDoorWEqStruct
import Derived.Test.YtjhdnapgdajllaaDoorWRepsOne
import Derived.Test.YtjhdnapgdajllaaDoorWInv
import Derived.Test.YtjhdnapgdajllaaDoorWInvWords
import Derived.Test.YtjhdnapgdajllaaDoorWGuard
import Derived.Test.YtjhdnapgdajllaaDoorWNEv
import Derived.Test.YtjhdnapgdajllaaDoorWMore
import Derived.Test.YtjhdnapgdajllaaDoorSetDx5
namespace Go.Proofs.YtjhdnapgdajllaaDoor.SetDecY
open Go.RowKit Go.Proofs.YtjhdnapgdajllaaDoorW.PrintWords Go.Proofs.YtjhdnapgdajllaaDoorW.PrintLast Go.Proofs.YtjhdnapgdajllaaDoorW.PrintMore
attribute [local go_sem] max2_int min2_int max_two min_two max_three min_three max_four min_four   -- for this text's walks alone
set_option linter.unusedVariables false
set_option linter.unusedSimpArgs false



open _root_.Go.Proofs.YtjhdnapgdajllaaDoor.SetW _root_.Go.Proofs.YtjhdnapgdajllaaDoor.SetEncW _root_.Go.Proofs.YtjhdnapgdajllaaDoor.SetDecW _root_.Go.Proofs.YtjhdnapgdajllaaDoor.SetIterG _root_.Go.Proofs.YtjhdnapgdajllaaDoor.SetInsXW _root_.Go.Proofs.YtjhdnapgdajllaaDoor.SetDecV _root_.Go.Proofs.YtjhdnapgdajllaaDoor.SetDec1
set_option maxHeartbeats 16000000 in
set_option maxRecDepth 100000 in
theorem decodeE1 (B n c nn sz : Nat) (ys : List Nat) (w : World) (et : TypeId) (ev : Value) (hB : rowP w B ys) (hnc : n ≤ c) (hn : 10 ≤ n) (hn2 : n ≤ 100000000) (hsz : sz < 4294967296) (hr : nn < 4294967296)
    (h1 : Has ys 2 (leN 4 nn)) (h2 : Has ys 6 (leN 4 sz)) (h3 : (n - 10) / 522 < nn) (hE : w.cell? ⟨0, 0, none⟩ = some (.iface et ev)) :
    Calls Tryd.prog 56 #[.slice (some ⟨B, 0, none⟩) n c] w fun e w' => e = .returned (.tuple #[.pointer none, .int .i64 (-1), .iface et ev]) ∧ Below w.heap.size w w' := by
  have HTE := Aside0.mk hE
  clear hE
  obtain ⟨n2, hn2'⟩ : ∃ n2, n2 = n - 2 := ⟨_, rfl⟩
  obtain ⟨c2, hc2⟩ : ∃ c2, c2 = c - 2 := ⟨_, rfl⟩
  obtain ⟨n6, hn6⟩ : ∃ n6, n6 = n - 6 := ⟨_, rfl⟩
  obtain ⟨c6, hc6⟩ : ∃ c6, c6 = c - 6 := ⟨_, rfl⟩
  have s1 : ∀ W, (Instr.slice 47 (.slice (some ⟨B, 0, none⟩) n c) (some (.int .i64 2)) none none).run Tryd.prog W = .ok (.slice (some ⟨B, 2, none⟩) n2 c2) W := fun W => by
    rw [hn2', hc2]
    exact slice_i8 B n c 2 (by omega) (by omega) W
  have s2 : ∀ W, (Instr.slice 47 (.slice (some ⟨B, 0, none⟩) n c) (some (.int .i64 6)) none none).run Tryd.prog W = .ok (.slice (some ⟨B, 6, none⟩) n6 c6) W := fun W => by
    rw [hn6, hc6]
    exact slice_i8 B n c 6 (by omega) (by omega) W
  have hlt : B < w.heap.size := hB.lt
  obtain ⟨W1, hW1⟩ : ∃ W1, W1 = w.alloc (.cells #[] 94 (0, 0)) := ⟨_, rfl⟩
  have b1 : Below w.heap.size w W1 := by rw [hW1]; exact below_alloc (Below.refl _ _) _
  have z1 : W1.heap.size = w.heap.size + 1 := by rw [hW1]; simp
  have r1 : rowP W1 B ys := hB.keep (b1.block B hlt)
  obtain ⟨LE, hLE⟩ : ∃ LE, LE = w.heap.size := ⟨_, rfl⟩
  have HG1 := Aside0.mk (get4_calls B 2 n2 c2 nn ys W1.drew (by omega) (by omega) r1 h1)
  have HP := Aside0.mk (And.intro hlt (And.intro b1 (And.intro z1 (And.intro r1 (And.intro hLE (And.intro hnc (And.intro hn (And.intro hn2 (And.intro hsz (And.intro hr (And.intro h2 (And.intro h3 (And.intro hn6 hc6)))))))))))))
  have q1 : nn ≤ 100000000000 := by omega
  have HW1 := Aside0.mk hW1
  clear hlt b1 z1 r1 hLE hnc hn hn2 hsz hr h1 h2 h3 hB hn2' hc2 hn6 hc6 hW1
  have u1 := w64n nn q1
  have u1' := wi64n nn q1
  clear q1
  go_enter Tryd.func56, Tryd.ntmps56
  go_wp2_with fail
  rw [← HW1.out]
  refine start_ (n := 7) (S := fun w' => True) (ds := []) #[false, false, false, false, false, false, false] (by kernel_rfl) rfl rfl trivial (fun hHeld => ?_)
  refine take_ (i := 0) (N := some 15) (v := ?_) (a' := ?_) #[true, false, false, false, false, false, false] rfl rfl (by kernel_rfl) (fun _ _ _ h => h) (Or.inl ⟨by rfl, ?_⟩) hHeld ?_ ?_
  rotate_left
  · intro w' hS'
    have hle := load_le w.heap.size w'
    go_simp
    with_reducible rfl
  rotate_left
  · simp only [Act.put, List.setIfInBounds_toArray, List.set_cons_zero, List.set_cons_succ, i64_w, i32_w]
    rfl
  refine pure_ (i := 1) (N := some 16) (v := ?_) (a' := ?_) #[true, true, false, false, false, false, false] rfl rfl (by kernel_rfl) (fun _ _ _ h => h) (Or.inl ⟨by rfl, ?_⟩) ?_ ?_
  rotate_left
  · intro w'
    go_simp
    with_reducible rfl
  rotate_left
  · simp only [Act.put, List.setIfInBounds_toArray, List.set_cons_zero, List.set_cons_succ, i64_w, i32_w]
    rfl
  refine pure_ (i := 2) (N := some 17) (v := ?_) (a' := ?_) #[true, true, true, false, false, false, false] rfl rfl (by kernel_rfl) (fun _ _ _ h => h) (Or.inl ⟨by rfl, ?_⟩) ?_ ?_
  rotate_left
  · intro w'
    go_simp
    with_reducible rfl
  rotate_left
  · simp only [Act.put, List.setIfInBounds_toArray, List.set_cons_zero, List.set_cons_succ, i64_w, i32_w]
    rfl
  refine pure_ (i := 3) (N := some 18) (v := ?_) (a' := ?_) #[true, true, true, true, false, false, false] rfl rfl (by kernel_rfl) (fun _ _ _ h => h) (Or.inl ⟨by rfl, ?_⟩) ?_ ?_
  rotate_left
  · intro w'
    go_simp
    with_reducible rfl
  rotate_left
  · simp only [Act.put, List.setIfInBounds_toArray, List.set_cons_zero, List.set_cons_succ, i64_w, i32_w]
    rfl
  refine one_ (i := 4) (N := some 19) #[true, true, true, true, true, false, false] rfl rfl (by kernel_rfl) (by decide) (fun K hK => ?_)
  refine goes_ Tryd.func75 (by kernel_rfl) rfl #[.agg #[], .slice (some ⟨B, 2, none⟩) n2 c2] (by rfl) rfl rfl (by simp only [List.map_toArray, List.map_cons, List.map_nil]; rfl) ?_
  refine (HG1.out).mono ?_
  rintro e w4 ⟨rfl, b4⟩
  refine ⟨_, rfl, ?_⟩
  refine hK.out _ _ trivial (fun hHeld => ?_)
  clear hK K
  refine norm_ (a' := ?_) ?_ ?_
  rotate_left
  · show Act.put _ (some 19) _ = _
    simp only [Act.put, List.setIfInBounds_toArray, List.set_cons_zero, List.set_cons_succ, i64_w, i32_w]
    rfl
  refine pure_ (i := 5) (N := some 20) (v := ?_) (a' := ?_) #[true, true, true, true, true, true, false] rfl rfl (by kernel_rfl) (fun _ _ _ h => h) (Or.inl ⟨by rfl, ?_⟩) ?_ ?_
  rotate_left
  · intro w'
    go_simp
    with_reducible rfl
  rotate_left
  · simp only [Act.put, List.setIfInBounds_toArray, List.set_cons_zero, List.set_cons_succ, i64_w, i32_w]
    rfl
  refine pure_ (i := 6) (N := some 7) (v := ?_) (a' := ?_) #[true, true, true, true, true, true, true] rfl rfl (by kernel_rfl) (fun _ _ _ h => h) (Or.inl ⟨by rfl, ?_⟩) ?_ ?_
  rotate_left
  · intro w'
    go_simp
    with_reducible rfl
  rotate_left
  · simp only [Act.put, List.setIfInBounds_toArray, List.set_cons_zero, List.set_cons_succ, i64_w, i32_w]
    rfl
  refine done_ (by kernel_rfl) ?_
  clear u1 u1'
  obtain ⟨hlt, b1, z1, r1, hLE, hnc, hn, hn2, hsz, hr, h2, h3, hn6, hc6⟩ := HP.out
  have b24 : Below w.heap.size w w4 := below_two b1 (below_cut (below_drew b4) b1.size)
  have r4 : rowP w4 B ys := r1.keep ((b24.block B hlt).trans (b1.block B hlt).symm)
  have HG4 := Aside0.mk (get4_calls B 6 n6 c6 sz ys w4.drew hsz (by omega) r4 h2)
  have q2 : sz ≤ 100000000000 := by omega
  have H4 := Aside0.mk (And.intro b24 r4)
  clear hlt b1 z1 r1 hLE hnc hn hn2 hsz hr h2 h3 hn6 hc6 b24 r4 b4 HG1
  have u2 := w64n sz q2
  have u2' := wi64n sz q2
  clear q2
  have v1 : wrap64 6 = 6 := w64n 6 (by decide)
  have v1' : IntKind.i64.wrap 6 = 6 := wi64n 6 (by decide)
  go_wp2_with fail
  refine start_ (n := 8) (S := fun w' => True) (ds := []) #[false, false, false, false, false, false, false, false] (by kernel_rfl) rfl rfl trivial (fun hHeld => ?_)
  refine take_ (i := 0) (N := some 21) (v := ?_) (a' := ?_) #[true, false, false, false, false, false, false, false] rfl rfl (by kernel_rfl) (fun _ _ _ h => h) (Or.inl ⟨by rfl, ?_⟩) hHeld ?_ ?_
  rotate_left
  · intro w' hS'
    have hle := load_le w.heap.size w'
    go_simp
    with_reducible rfl
  rotate_left
  · simp only [Act.put, List.setIfInBounds_toArray, List.set_cons_zero, List.set_cons_succ, i64_w, i32_w]
    rfl
  refine pure_ (i := 1) (N := some 22) (v := ?_) (a' := ?_) #[true, true, false, false, false, false, false, false] rfl rfl (by kernel_rfl) (fun _ _ _ h => h) (Or.inl ⟨by rfl, ?_⟩) ?_ ?_
  rotate_left
  · intro w'
    go_simp
    with_reducible rfl
  rotate_left
  · simp only [Act.put, List.setIfInBounds_toArray, List.set_cons_zero, List.set_cons_succ, i64_w, i32_w]
    rfl
  refine pure_ (i := 2) (N := some 23) (v := ?_) (a' := ?_) #[true, true, true, false, false, false, false, false] rfl rfl (by kernel_rfl) (fun _ _ _ h => h) (Or.inl ⟨by rfl, ?_⟩) ?_ ?_
  rotate_left
  · intro w'
    go_simp
    with_reducible rfl
  rotate_left
  · simp only [Act.put, List.setIfInBounds_toArray, List.set_cons_zero, List.set_cons_succ, i64_w, i32_w]
    rfl
  refine pure_ (i := 3) (N := some 24) (v := ?_) (a' := ?_) #[true, true, true, true, false, false, false, false] rfl rfl (by kernel_rfl) (fun _ _ _ h => h) (Or.inl ⟨by rfl, ?_⟩) ?_ ?_
  rotate_left
  · intro w'
    go_simp
    with_reducible rfl
  rotate_left
  · simp only [Act.put, List.setIfInBounds_toArray, List.set_cons_zero, List.set_cons_succ, i64_w, i32_w]
    rfl
  refine pure_ (i := 4) (N := some 25) (v := ?_) (a' := ?_) #[true, true, true, true, true, false, false, false] rfl rfl (by kernel_rfl) (fun _ _ _ h => h) (Or.inl ⟨by rfl, ?_⟩) ?_ ?_
  rotate_left
  · intro w'
    go_simp
    with_reducible rfl
  rotate_left
  · simp only [Act.put, List.setIfInBounds_toArray, List.set_cons_zero, List.set_cons_succ, i64_w, i32_w]
    rfl
  refine one_ (i := 5) (N := some 26) #[true, true, true, true, true, true, false, false] rfl rfl (by kernel_rfl) (by decide) (fun K hK => ?_)
  refine goes_ Tryd.func75 (by kernel_rfl) rfl #[.agg #[], .slice (some ⟨B, 6, none⟩) n6 c6] (by rfl) rfl rfl (by simp only [List.map_toArray, List.map_cons, List.map_nil]; rfl) ?_
  refine (HG4.out).mono ?_
  rintro e w5 ⟨rfl, b5⟩
  refine ⟨_, rfl, ?_⟩
  refine hK.out _ _ trivial (fun hHeld => ?_)
  clear hK K
  refine norm_ (a' := ?_) ?_ ?_
  rotate_left
  · show Act.put _ (some 26) _ = _
    simp only [Act.put, List.setIfInBounds_toArray, List.set_cons_zero, List.set_cons_succ, i64_w, i32_w]
    rfl
  refine pure_ (i := 6) (N := some 27) (v := ?_) (a' := ?_) #[true, true, true, true, true, true, true, false] rfl rfl (by kernel_rfl) (fun _ _ _ h => h) (Or.inl ⟨by rfl, ?_⟩) ?_ ?_
  rotate_left
  · intro w'
    go_simp
    with_reducible rfl
  rotate_left
  · simp only [Act.put, List.setIfInBounds_toArray, List.set_cons_zero, List.set_cons_succ, i64_w, i32_w]
    rfl
  refine pure_ (i := 7) (N := some 8) (v := ?_) (a' := ?_) #[true, true, true, true, true, true, true, true] rfl rfl (by kernel_rfl) (fun _ _ _ h => h) (Or.inl ⟨by rfl, ?_⟩) ?_ ?_
  rotate_left
  · intro w'
    go_simp
    with_reducible rfl
  rotate_left
  · simp only [Act.put, List.setIfInBounds_toArray, List.set_cons_zero, List.set_cons_succ, i64_w, i32_w]
    rfl
  refine done_ (by kernel_rfl) ?_
  clear u2 u2' v1 v1'
  obtain ⟨hlt, b1, z1, r1, hLE, hnc, hn, hn2, hsz, hr, h2, h3, hn6, hc6⟩ := HP.out
  obtain ⟨b24, r4⟩ := H4.out
  have b25 : Below w.heap.size w w5 := below_two b24 (below_cut (below_drew b5) b24.size)
  have r5 : rowP w5 B ys := r4.keep ((b25.block B hlt).trans (b24.block B hlt).symm)
  obtain ⟨n10, hn10⟩ : ∃ n10, n10 = n - 10 := ⟨_, rfl⟩
  have e3 : (n : Int) - 10 = (n10 : Int) := by omega
  have q3 : n10 ≤ 100000000000 := by omega
  obtain ⟨n11, hn11⟩ : ∃ n11, n11 = n10 / 522 := ⟨_, rfl⟩
  have e4 : (n10 : Int) / 522 = (n11 : Int) := by omega
  have q4 : n11 ≤ 100000000000 := by omega
  have d1 : decide ((nn : Int) < 0) = false := decide_eq_false (by omega)
  have d2 : ¬ ((nn : Int) < 0) := by omega
  have d3 : decide (n11 < nn) = true := decide_eq_true (by omega)
  have d4 := eq_true (show n11 < nn by omega)
  have d5 := eq_false (show ¬ (nn ≤ n11) by omega)
  have H5 := Aside0.mk (And.intro b25 r5)
  clear hlt b1 z1 r1 hLE hnc hn hn2 hsz hr h2 h3 hn6 hc6 b24 r4 H4 b25 r5 b5 hn10 hn11
  have v3 := w64s _ _ e3 q3
  have v4 := w64s _ _ e4 q4
  clear e3 q3 e4 q4
  have hgl : 0 < w.heap.size := by
    by_cases hk : 0 < w.heap.size
    · exact hk
    · have hE := HTE.out
      simp [World.cell?, Array.getElem?_eq_none (Nat.le_of_not_lt hk)] at hE
  have ce : w5.cell? ⟨0, 0, none⟩ = some (.iface et ev) := (cell_of_heap (H5.out.1.block _ hgl) 0).trans HTE.out
  clear hgl
  go_wp2_with fail
  go_region
  go_wp2_with fail
  refine bodyPost_ret (results_tmp3 rfl _ _ _) rfl ?_
  exact ⟨rfl, by first | exact H5.out.1 | exact pw_below_drewN H5.out.1 1⟩
set_option maxHeartbeats 16000000 in
set_option maxRecDepth 100000 in
theorem decodeE2 (B n c nn sz : Nat) (ys : List Nat) (w : World) (et : TypeId) (ev : Value) (hB : rowP w B ys) (hnc : n ≤ c) (hn : 10 ≤ n) (hn2 : n ≤ 100000000) (hsz : sz < 4294967296) (hr : nn < 4294967296)
    (h1 : Has ys 2 (leN 4 nn)) (h2 : Has ys 6 (leN 4 sz)) (h3 : (n - 10) / 266 < nn) (hE : w.cell? ⟨0, 0, none⟩ = some (.iface et ev)) :
    Calls Tryd.prog 57 #[.slice (some ⟨B, 0, none⟩) n c] w fun e w' => e = .returned (.tuple #[.pointer none, .int .i64 (-1), .iface et ev]) ∧ Below w.heap.size w w' := by
  have HTE := Aside0.mk hE
  clear hE
  obtain ⟨n2, hn2'⟩ : ∃ n2, n2 = n - 2 := ⟨_, rfl⟩
  obtain ⟨c2, hc2⟩ : ∃ c2, c2 = c - 2 := ⟨_, rfl⟩
  obtain ⟨n6, hn6⟩ : ∃ n6, n6 = n - 6 := ⟨_, rfl⟩
  obtain ⟨c6, hc6⟩ : ∃ c6, c6 = c - 6 := ⟨_, rfl⟩
  have s1 : ∀ W, (Instr.slice 47 (.slice (some ⟨B, 0, none⟩) n c) (some (.int .i64 2)) none none).run Tryd.prog W = .ok (.slice (some ⟨B, 2, none⟩) n2 c2) W := fun W => by
    rw [hn2', hc2]
    exact slice_i8 B n c 2 (by omega) (by omega) W
  have s2 : ∀ W, (Instr.slice 47 (.slice (some ⟨B, 0, none⟩) n c) (some (.int .i64 6)) none none).run Tryd.prog W = .ok (.slice (some ⟨B, 6, none⟩) n6 c6) W := fun W => by
    rw [hn6, hc6]
    exact slice_i8 B n c 6 (by omega) (by omega) W
  have hlt : B < w.heap.size := hB.lt
  obtain ⟨W1, hW1⟩ : ∃ W1, W1 = w.alloc (.cells #[] 94 (0, 0)) := ⟨_, rfl⟩
  have b1 : Below w.heap.size w W1 := by rw [hW1]; exact below_alloc (Below.refl _ _) _
  have z1 : W1.heap.size = w.heap.size + 1 := by rw [hW1]; simp
  have r1 : rowP W1 B ys := hB.keep (b1.block B hlt)
  obtain ⟨LE, hLE⟩ : ∃ LE, LE = w.heap.size := ⟨_, rfl⟩
  have HG1 := Aside0.mk (get4_calls B 2 n2 c2 nn ys W1.drew (by omega) (by omega) r1 h1)
  have HP := Aside0.mk (And.intro hlt (And.intro b1 (And.intro z1 (And.intro r1 (And.intro hLE (And.intro hnc (And.intro hn (And.intro hn2 (And.intro hsz (And.intro hr (And.intro h2 (And.intro h3 (And.intro hn6 hc6)))))))))))))
  have q1 : nn ≤ 100000000000 := by omega
  have HW1 := Aside0.mk hW1
  clear hlt b1 z1 r1 hLE hnc hn hn2 hsz hr h1 h2 h3 hB hn2' hc2 hn6 hc6 hW1
  have u1 := w64n nn q1
  have u1' := wi64n nn q1
  clear q1
  go_enter Tryd.func57, Tryd.ntmps57
  go_wp2_with fail
  rw [← HW1.out]
  refine start_ (n := 7) (S := fun w' => True) (ds := []) #[false, false, false, false, false, false, false] (by kernel_rfl) rfl rfl trivial (fun hHeld => ?_)
  refine take_ (i := 0) (N := some 15) (v := ?_) (a' := ?_) #[true, false, false, false, false, false, false] rfl rfl (by kernel_rfl) (fun _ _ _ h => h) (Or.inl ⟨by rfl, ?_⟩) hHeld ?_ ?_
  rotate_left
  · intro w' hS'
    have hle := load_le w.heap.size w'
    go_simp
    with_reducible rfl
  rotate_left
  · simp only [Act.put, List.setIfInBounds_toArray, List.set_cons_zero, List.set_cons_succ, i64_w, i32_w]
    rfl
  refine pure_ (i := 1) (N := some 16) (v := ?_) (a' := ?_) #[true, true, false, false, false, false, false] rfl rfl (by kernel_rfl) (fun _ _ _ h => h) (Or.inl ⟨by rfl, ?_⟩) ?_ ?_
  rotate_left
  · intro w'
    go_simp
    with_reducible rfl
  rotate_left
  · simp only [Act.put, List.setIfInBounds_toArray, List.set_cons_zero, List.set_cons_succ, i64_w, i32_w]
    rfl
  refine pure_ (i := 2) (N := some 17) (v := ?_) (a' := ?_) #[true, true, true, false, false, false, false] rfl rfl (by kernel_rfl) (fun _ _ _ h => h) (Or.inl ⟨by rfl, ?_⟩) ?_ ?_
  rotate_left
  · intro w'
    go_simp
    with_reducible rfl
  rotate_left
  · simp only [Act.put, List.setIfInBounds_toArray, List.set_cons_zero, List.set_cons_succ, i64_w, i32_w]
    rfl
  refine pure_ (i := 3) (N := some 18) (v := ?_) (a' := ?_) #[true, true, true, true, false, false, false] rfl rfl (by kernel_rfl) (fun _ _ _ h => h) (Or.inl ⟨by rfl, ?_⟩) ?_ ?_
  rotate_left
  · intro w'
    go_simp
    with_reducible rfl
  rotate_left
  · simp only [Act.put, List.setIfInBounds_toArray, List.set_cons_zero, List.set_cons_succ, i64_w, i32_w]
    rfl
  refine one_ (i := 4) (N := some 19) #[true, true, true, true, true, false, false] rfl rfl (by kernel_rfl) (by decide) (fun K hK => ?_)
  refine goes_ Tryd.func75 (by kernel_rfl) rfl #[.agg #[], .slice (some ⟨B, 2, none⟩) n2 c2] (by rfl) rfl rfl (by simp only [List.map_toArray, List.map_cons, List.map_nil]; rfl) ?_
  refine (HG1.out).mono ?_
  rintro e w4 ⟨rfl, b4⟩
  refine ⟨_, rfl, ?_⟩
  refine hK.out _ _ trivial (fun hHeld => ?_)
  clear hK K
  refine norm_ (a' := ?_) ?_ ?_
  rotate_left
  · show Act.put _ (some 19) _ = _
    simp only [Act.put, List.setIfInBounds_toArray, List.set_cons_zero, List.set_cons_succ, i64_w, i32_w]
    rfl
  refine pure_ (i := 5) (N := some 20) (v := ?_) (a' := ?_) #[true, true, true, true, true, true, false] rfl rfl (by kernel_rfl) (fun _ _ _ h => h) (Or.inl ⟨by rfl, ?_⟩) ?_ ?_
  rotate_left
  · intro w'
    go_simp
    with_reducible rfl
  rotate_left
  · simp only [Act.put, List.setIfInBounds_toArray, List.set_cons_zero, List.set_cons_succ, i64_w, i32_w]
    rfl
  refine pure_ (i := 6) (N := some 7) (v := ?_) (a' := ?_) #[true, true, true, true, true, true, true] rfl rfl (by kernel_rfl) (fun _ _ _ h => h) (Or.inl ⟨by rfl, ?_⟩) ?_ ?_
  rotate_left
  · intro w'
    go_simp
    with_reducible rfl
  rotate_left
  · simp only [Act.put, List.setIfInBounds_toArray, List.set_cons_zero, List.set_cons_succ, i64_w, i32_w]
    rfl
  refine done_ (by kernel_rfl) ?_
  clear u1 u1'
  obtain ⟨hlt, b1, z1, r1, hLE, hnc, hn, hn2, hsz, hr, h2, h3, hn6, hc6⟩ := HP.out
  have b24 : Below w.heap.size w w4 := below_two b1 (below_cut (below_drew b4) b1.size)
  have r4 : rowP w4 B ys := r1.keep ((b24.block B hlt).trans (b1.block B hlt).symm)
  have HG4 := Aside0.mk (get4_calls B 6 n6 c6 sz ys w4.drew hsz (by omega) r4 h2)
  have q2 : sz ≤ 100000000000 := by omega
  have H4 := Aside0.mk (And.intro b24 r4)
  clear hlt b1 z1 r1 hLE hnc hn hn2 hsz hr h2 h3 hn6 hc6 b24 r4 b4 HG1
  have u2 := w64n sz q2
  have u2' := wi64n sz q2
  clear q2
  have v1 : wrap64 6 = 6 := w64n 6 (by decide)
  have v1' : IntKind.i64.wrap 6 = 6 := wi64n 6 (by decide)
  go_wp2_with fail
  refine start_ (n := 8) (S := fun w' => True) (ds := []) #[false, false, false, false, false, false, false, false] (by kernel_rfl) rfl rfl trivial (fun hHeld => ?_)
  refine take_ (i := 0) (N := some 21) (v := ?_) (a' := ?_) #[true, false, false, false, false, false, false, false] rfl rfl (by kernel_rfl) (fun _ _ _ h => h) (Or.inl ⟨by rfl, ?_⟩) hHeld ?_ ?_
  rotate_left
  · intro w' hS'
    have hle := load_le w.heap.size w'
    go_simp
    with_reducible rfl
  rotate_left
  · simp only [Act.put, List.setIfInBounds_toArray, List.set_cons_zero, List.set_cons_succ, i64_w, i32_w]
    rfl
  refine pure_ (i := 1) (N := some 22) (v := ?_) (a' := ?_) #[true, true, false, false, false, false, false, false] rfl rfl (by kernel_rfl) (fun _ _ _ h => h) (Or.inl ⟨by rfl, ?_⟩) ?_ ?_
  rotate_left
  · intro w'
    go_simp
    with_reducible rfl
  rotate_left
  · simp only [Act.put, List.setIfInBounds_toArray, List.set_cons_zero, List.set_cons_succ, i64_w, i32_w]
    rfl
  refine pure_ (i := 2) (N := some 23) (v := ?_) (a' := ?_) #[true, true, true, false, false, false, false, false] rfl rfl (by kernel_rfl) (fun _ _ _ h => h) (Or.inl ⟨by rfl, ?_⟩) ?_ ?_
  rotate_left
  · intro w'
    go_simp
    with_reducible rfl
  rotate_left
  · simp only [Act.put, List.setIfInBounds_toArray, List.set_cons_zero, List.set_cons_succ, i64_w, i32_w]
    rfl
  refine pure_ (i := 3) (N := some 24) (v := ?_) (a' := ?_) #[true, true, true, true, false, false, false, false] rfl rfl (by kernel_rfl) (fun _ _ _ h => h) (Or.inl ⟨by rfl, ?_⟩) ?_ ?_
  rotate_left
  · intro w'
    go_simp
    with_reducible rfl
  rotate_left
  · simp only [Act.put, List.setIfInBounds_toArray, List.set_cons_zero, List.set_cons_succ, i64_w, i32_w]
    rfl
  refine pure_ (i := 4) (N := some 25) (v := ?_) (a' := ?_) #[true, true, true, true, true, false, false, false] rfl rfl (by kernel_rfl) (fun _ _ _ h => h) (Or.inl ⟨by rfl, ?_⟩) ?_ ?_
  rotate_left
  · intro w'
    go_simp
    with_reducible rfl
  rotate_left
  · simp only [Act.put, List.setIfInBounds_toArray, List.set_cons_zero, List.set_cons_succ, i64_w, i32_w]
    rfl
  refine one_ (i := 5) (N := some 26) #[true, true, true, true, true, true, false, false] rfl rfl (by kernel_rfl) (by decide) (fun K hK => ?_)
  refine goes_ Tryd.func75 (by kernel_rfl) rfl #[.agg #[], .slice (some ⟨B, 6, none⟩) n6 c6] (by rfl) rfl rfl (by simp only [List.map_toArray, List.map_cons, List.map_nil]; rfl) ?_
  refine (HG4.out).mono ?_
  rintro e w5 ⟨rfl, b5⟩
  refine ⟨_, rfl, ?_⟩
  refine hK.out _ _ trivial (fun hHeld => ?_)
  clear hK K
  refine norm_ (a' := ?_) ?_ ?_
  rotate_left
  · show Act.put _ (some 26) _ = _
    simp only [Act.put, List.setIfInBounds_toArray, List.set_cons_zero, List.set_cons_succ, i64_w, i32_w]
    rfl
  refine pure_ (i := 6) (N := some 27) (v := ?_) (a' := ?_) #[true, true, true, true, true, true, true, false] rfl rfl (by kernel_rfl) (fun _ _ _ h => h) (Or.inl ⟨by rfl, ?_⟩) ?_ ?_
  rotate_left
  · intro w'
    go_simp
    with_reducible rfl
  rotate_left
  · simp only [Act.put, List.setIfInBounds_toArray, List.set_cons_zero, List.set_cons_succ, i64_w, i32_w]
    rfl
  refine pure_ (i := 7) (N := some 8) (v := ?_) (a' := ?_) #[true, true, true, true, true, true, true, true] rfl rfl (by kernel_rfl) (fun _ _ _ h => h) (Or.inl ⟨by rfl, ?_⟩) ?_ ?_
  rotate_left
  · intro w'
    go_simp
    with_reducible rfl
  rotate_left
  · simp only [Act.put, List.setIfInBounds_toArray, List.set_cons_zero, List.set_cons_succ, i64_w, i32_w]
    rfl
  refine done_ (by kernel_rfl) ?_
  clear u2 u2' v1 v1'
  obtain ⟨hlt, b1, z1, r1, hLE, hnc, hn, hn2, hsz, hr, h2, h3, hn6, hc6⟩ := HP.out
  obtain ⟨b24, r4⟩ := H4.out
  have b25 : Below w.heap.size w w5 := below_two b24 (below_cut (below_drew b5) b24.size)
  have r5 : rowP w5 B ys := r4.keep ((b25.block B hlt).trans (b24.block B hlt).symm)
  obtain ⟨n10, hn10⟩ : ∃ n10, n10 = n - 10 := ⟨_, rfl⟩
  have e3 : (n : Int) - 10 = (n10 : Int) := by omega
  have q3 : n10 ≤ 100000000000 := by omega
  obtain ⟨n11, hn11⟩ : ∃ n11, n11 = n10 / 266 := ⟨_, rfl⟩
  have e4 : (n10 : Int) / 266 = (n11 : Int) := by omega
  have q4 : n11 ≤ 100000000000 := by omega
  have d1 : decide ((nn : Int) < 0) = false := decide_eq_false (by omega)
  have d2 : ¬ ((nn : Int) < 0) := by omega
  have d3 : decide (n11 < nn) = true := decide_eq_true (by omega)
  have d4 := eq_true (show n11 < nn by omega)
  have d5 := eq_false (show ¬ (nn ≤ n11) by omega)
  have H5 := Aside0.mk (And.intro b25 r5)
  clear hlt b1 z1 r1 hLE hnc hn hn2 hsz hr h2 h3 hn6 hc6 b24 r4 H4 b25 r5 b5 hn10 hn11
  have v3 := w64s _ _ e3 q3
  have v4 := w64s _ _ e4 q4
  clear e3 q3 e4 q4
  have hgl : 0 < w.heap.size := by
    by_cases hk : 0 < w.heap.size
    · exact hk
    · have hE := HTE.out
      simp [World.cell?, Array.getElem?_eq_none (Nat.le_of_not_lt hk)] at hE
  have ce : w5.cell? ⟨0, 0, none⟩ = some (.iface et ev) := (cell_of_heap (H5.out.1.block _ hgl) 0).trans HTE.out
  clear hgl
  go_wp2_with fail
  go_region
  go_wp2_with fail
  refine bodyPost_ret (results_tmp3 rfl _ _ _) rfl ?_
  exact ⟨rfl, by first | exact H5.out.1 | exact pw_below_drewN H5.out.1 1⟩
section
variable {et : TypeId} {ev : Value}
theorem gl_lt {w : World} {k : Nat} {v : Value} (h : w.cell? ⟨k, 0, none⟩ = some v) : k < w.heap.size := by
  by_cases hk : k < w.heap.size
  · exact hk
  · simp [World.cell?, Array.getElem?_eq_none (Nat.le_of_not_lt hk)] at h
set_option maxHeartbeats 16000000 in
set_option maxRecDepth 100000 in
theorem DecodeS_calls (A : Option Addr) (n c : Nat) (w : World) (hn : n < 10) (hE : w.cell? ⟨0, 0, none⟩ = some (.iface et ev)) :
    Calls Tryd.prog 42 #[.slice A n c] w fun e w' => e = .returned (.tuple #[.pointer none, .int .i64 (-1), .iface et ev]) ∧ Below w.heap.size w w' := by
  have d1 : decide ((n : Int) < 10) = true := decide_eq_true (by omega)
  have d2 := eq_true (show (n : Int) < 10 by omega)
  have d3 := eq_true hn
  clear hn
  go_enter Tryd.func42, Tryd.ntmps42
  go_wp2_with fail
  go_region
  go_wp2_with fail
  refine bodyPost_ret (results_tmp3 rfl _ _ _) rfl ?_
  exact ⟨rfl, by first | exact Below.refl _ _ | exact pw_below_drewN (Below.refl _ _) 1⟩
set_option maxHeartbeats 16000000 in
set_option maxRecDepth 100000 in
theorem DecodeM_calls (B n c : Nat) (ys : List Nat) (w : World) (hB : rowP w B ys) (hn : 10 ≤ n) (hyn : n = ys.length) (hz : ys.getD 0 0 ≠ 22) (hE : w.cell? ⟨0, 0, none⟩ = some (.iface et ev)) :
    Calls Tryd.prog 42 #[.slice (some ⟨B, 0, none⟩) n c] w fun e w' => e = .returned (.tuple #[.pointer none, .int .i64 (-1), .iface et ev]) ∧ Below w.heap.size w w' := by
  have c0 := hB.cell 0 (by omega)
  obtain ⟨z, hzz⟩ : ∃ z, z = ys.getD 0 0 := ⟨_, rfl⟩
  rw [← hzz] at c0 hz
  have d1 : decide ((n : Int) < 10) = false := decide_eq_false (by omega)
  have d2 := eq_false (show ¬ ((n : Int) < 10) by omega)
  have d3 := eq_false (show ¬ (n < 10) by omega)
  have d5 := eq_true (show 0 < n by omega)
  have d7 := eq_true (show (0 : Int) < (n : Int) by omega)
  have b1 : ((z : Int) != 22) = true := bne_iff_ne.2 (by omega)
  have b2 : decide (z = 22) = false := decide_eq_false hz
  have b3 := eq_false hz
  have b4 := eq_false (show ¬ ((z : Int) = 22) by omega)
  clear hB hn hyn hz hzz
  go_enter Tryd.func42, Tryd.ntmps42
  go_wp2_with fail
  go_region
  go_wp2_with fail
  refine bodyPost_ret (results_tmp3 rfl _ _ _) rfl ?_
  exact ⟨rfl, by first | exact Below.refl _ _ | exact pw_below_drewN (Below.refl _ _) 1⟩
set_option maxHeartbeats 16000000 in
set_option maxRecDepth 100000 in
theorem DecodeV_calls (B n c : Nat) (ys : List Nat) (w : World) (hB : rowP w B ys) (hn : 10 ≤ n) (hyn : n = ys.length) (hz : ys.getD 0 0 = 22) (hv1 : ys.getD 1 0 ≠ 1) (hv2 : ys.getD 1 0 ≠ 2) (hE : w.cell? ⟨1, 0, none⟩ = some (.iface et ev)) :
    Calls Tryd.prog 42 #[.slice (some ⟨B, 0, none⟩) n c] w fun e w' => e = .returned (.tuple #[.pointer none, .int .i64 (-1), .iface et ev]) ∧ Below w.heap.size w w' := by
  have c0 := hB.cell 0 (by omega)
  have c1 := hB.cell 1 (by omega)
  rw [hz] at c0
  replace c0 : w.cell? ⟨B, 0, none⟩ = some (.int .u8 22) := c0
  obtain ⟨v, hvv⟩ : ∃ v, v = ys.getD 1 0 := ⟨_, rfl⟩
  rw [← hvv] at c1 hv1 hv2
  have d1 : decide ((n : Int) < 10) = false := decide_eq_false (by omega)
  have d2 := eq_false (show ¬ ((n : Int) < 10) by omega)
  have d3 := eq_false (show ¬ (n < 10) by omega)
  have d5 := eq_true (show 0 < n by omega)
  have d7 := eq_true (show (0 : Int) < (n : Int) by omega)
  have d6 := eq_true (show 1 < n by omega)
  have d8 := eq_true (show (1 : Int) < (n : Int) by omega)
  have b1 : ((v : Int) == 1) = false := beq_eq_false_iff_ne.2 (by omega)
  have b2 : decide (v = 1) = false := decide_eq_false hv1
  have b3 := eq_false hv1
  have b4 := eq_false (show ¬ ((v : Int) = 1) by omega)
  have b5 : ((v : Int) == 2) = false := beq_eq_false_iff_ne.2 (by omega)
  have b6 : decide (v = 2) = false := decide_eq_false hv2
  have b7 := eq_false hv2
  have b8 := eq_false (show ¬ ((v : Int) = 2) by omega)
  clear hB hn hyn hz hvv hv1 hv2
  go_enter Tryd.func42, Tryd.ntmps42
  go_wp2_with fail
  go_region
  go_wp2_with fail
  refine bodyPost_ret (results_tmp3 rfl _ _ _) rfl ?_
  exact ⟨rfl, by first | exact Below.refl _ _ | exact pw_below_drewN (Below.refl _ _) 1⟩
end
set_option maxHeartbeats 16000000 in
set_option maxRecDepth 100000 in
theorem DecodeK1_calls (B n c : Nat) (ys : List Nat) (w : World) (P : Ending → World → Prop) (hB : rowP w B ys) (hn : 10 ≤ n) (hyn : n = ys.length) (hz : ys.getD 0 0 = 22) (hv : ys.getD 1 0 = 1)
    (HD : Calls Tryd.prog 56 #[.slice (some ⟨B, 0, none⟩) n c] w P) (hP : ∀ e w', P e w' → ∃ a b c, e = .returned (.tuple #[a, b, c])) :
    Calls Tryd.prog 42 #[.slice (some ⟨B, 0, none⟩) n c] w P := by
  have c0 := hB.cell 0 (by omega)
  have c1 := hB.cell 1 (by omega)
  rw [hz] at c0
  rw [hv] at c1
  replace c0 : w.cell? ⟨B, 0, none⟩ = some (.int .u8 22) := c0
  replace c1 : w.cell? ⟨B, 1, none⟩ = some (.int .u8 1) := c1
  have d1 : decide ((n : Int) < 10) = false := decide_eq_false (by omega)
  have d2 := eq_false (show ¬ ((n : Int) < 10) by omega)
  have d3 := eq_false (show ¬ (n < 10) by omega)
  have d5 := eq_true (show 0 < n by omega)
  have d7 := eq_true (show (0 : Int) < (n : Int) by omega)
  have d6 := eq_true (show 1 < n by omega)
  have d8 := eq_true (show (1 : Int) < (n : Int) by omega)
  have HDD := Aside0.mk (And.intro HD hP)
  clear hB hn hyn hz hv HD hP
  go_enter Tryd.func42, Tryd.ntmps42
  go_wp2_with fail
  refine HDD.out.1.mono ?_
  intro e w1 hP
  obtain ⟨x, y, z, rfl⟩ := HDD.out.2 e w1 hP
  have H1 := Aside0.mk hP
  clear hP
  go_wp2_with fail
  refine bodyPost_ret (results_tmp3 rfl _ _ _) rfl ?_
  exact H1.out
set_option maxHeartbeats 16000000 in
set_option maxRecDepth 100000 in
theorem DecodeK2_calls (B n c : Nat) (ys : List Nat) (w : World) (P : Ending → World → Prop) (hB : rowP w B ys) (hn : 10 ≤ n) (hyn : n = ys.length) (hz : ys.getD 0 0 = 22) (hv : ys.getD 1 0 = 2)
    (HD : Calls Tryd.prog 57 #[.slice (some ⟨B, 0, none⟩) n c] w P) (hP : ∀ e w', P e w' → ∃ a b c, e = .returned (.tuple #[a, b, c])) :
    Calls Tryd.prog 42 #[.slice (some ⟨B, 0, none⟩) n c] w P := by
  have c0 := hB.cell 0 (by omega)
  have c1 := hB.cell 1 (by omega)
  rw [hz] at c0
  rw [hv] at c1
  replace c0 : w.cell? ⟨B, 0, none⟩ = some (.int .u8 22) := c0
  replace c1 : w.cell? ⟨B, 1, none⟩ = some (.int .u8 2) := c1
  have d1 : decide ((n : Int) < 10) = false := decide_eq_false (by omega)
  have d2 := eq_false (show ¬ ((n : Int) < 10) by omega)
  have d3 := eq_false (show ¬ (n < 10) by omega)
  have d5 := eq_true (show 0 < n by omega)
  have d7 := eq_true (show (0 : Int) < (n : Int) by omega)
  have d6 := eq_true (show 1 < n by omega)
  have d8 := eq_true (show (1 : Int) < (n : Int) by omega)
  have HDD := Aside0.mk (And.intro HD hP)
  clear hB hn hyn hz hv HD hP
  go_enter Tryd.func42, Tryd.ntmps42
  go_wp2_with fail
  refine HDD.out.1.mono ?_
  intro e w1 hP
  obtain ⟨x, y, z, rfl⟩ := HDD.out.2 e w1 hP
  have H1 := Aside0.mk hP
  clear hP
  go_wp2_with fail
  refine bodyPost_ret (results_tmp3 rfl _ _ _) rfl ?_
  exact H1.out
set_option maxHeartbeats 16000000 in
set_option maxRecDepth 100000 in
theorem SetDecodeG (A : Option Addr) (n c : Nat) (w : World) (Q : Value → World → Prop) (Pe : World → Prop) (Pa : Int → Value → World → Prop)
    (HC : Calls Tryd.prog 43 #[.slice A n c] w fun e w1 => ∃ v1, e = .returned v1 ∧ Q v1 w1)
    (HD : ∀ v1 w1, Q v1 w1 → Calls Tryd.prog 42 #[v1] w1 fun e w2 => (∃ et ev, e = .returned (.tuple #[.pointer none, .int .i64 (-1), .iface et ev]) ∧ Pe w2) ∨ (∃ (SS : Nat) (U : Int), e = .returned (.tuple #[.pointer (some ⟨SS, 0, none⟩), .int .i64 U, .nilIface]) ∧ Calls Tryd.prog 37 #[.pointer (some ⟨SS, 0, none⟩)] w2 fun e w3 => ∃ v3, e = .returned v3 ∧ Pa U v3 w3)) :
    Calls Tryd.prog 22 #[.slice A n c] w fun e w' => (e = .returned (.tuple #[.slice none 0 0, .int .i64 0, .int .i64 1]) ∧ Pe w') ∨ (∃ (U : Int) (v3 : Value), e = .returned (.tuple #[v3, .int .i64 U, .int .i64 0]) ∧ Pa U v3 w') := by
  have HH := Aside0.mk (And.intro HC HD)
  clear HC HD
  go_enter Tryd.func22, Tryd.ntmps22
  go_wp2_with fail
  refine HH.out.1.mono ?_
  rintro e w1 ⟨v1, rfl, q1⟩
  have HD := Aside0.mk (HH.out.2 v1 w1 q1)
  clear q1
  go_wp2_with fail
  refine HD.out.mono ?_
  rintro e w2 (⟨et, ev, rfl, hp⟩ | ⟨SS, U, rfl, ha⟩)
  · have HP := Aside0.mk hp
    clear hp
    go_wp2_with fail
    refine bodyPost_ret (results_tmp3 rfl _ _ _) rfl ?_
    exact .inl ⟨rfl, HP.out⟩
  · have HA := Aside0.mk ha
    clear ha
    go_wp2_with fail
    refine HA.out.mono ?_
    rintro e w3 ⟨v3, rfl, p3⟩
    have H3 := Aside0.mk p3
    clear p3
    go_wp2_with fail
    refine bodyPost_ret (results_tmp3 rfl _ _ _) rfl ?_
    exact .inr ⟨U, v3, rfl, H3.out⟩
/-- What the decoders lean on: the table, and that both errors are there. -/
structure DecLaid (w : World) : Prop where
  tab : TabAt 3 Lib.deBruijn64tab w
  a : ∃ t v, w.cell? ⟨0, 0, none⟩ = some (.iface t v)
  b : ∃ t v, w.cell? ⟨1, 0, none⟩ = some (.iface t v)
theorem DecLaid.below {w0 w : World} (h : DecLaid w0) (hb : Below w0.heap.size w0 w) : DecLaid w := by
  obtain ⟨t, v, ha⟩ := h.a
  obtain ⟨t', v', hb'⟩ := h.b
  exact ⟨tab_below hb h.tab, ⟨t, v, (cell_of_heap (hb.block _ (gl_lt ha)) 0).trans ha⟩, ⟨t', v', (cell_of_heap (hb.block _ (gl_lt hb')) 0).trans hb'⟩⟩
/-- What bytes say as a set: its numbers and how many bytes were taken; nothing where they are no set's. -/
def decA (ys : List Nat) : Option (List Nat × Nat) :=
  if ys.length < 10 then none
  else if ys.getD 0 0 ≠ 22 then none
  else if ys.getD 1 0 = 1 then (if (ys.length - 10) / 522 < natAt ys 2 4 then none else if (stX (seqs1 ys (natAt ys 2 4))).2 = natAt ys 6 4 then some (numsX (stX (seqs1 ys (natAt ys 2 4))).1, 10 + 522 * natAt ys 2 4) else none)
  else if ys.getD 1 0 = 2 then (if (ys.length - 10) / 266 < natAt ys 2 4 then none else some (numsG (decT (recsAt ys (natAt ys 2 4)) (natAt ys 2 4)), 10 + 266 * natAt ys 2 4))
  else none
theorem own_len {b : Nat} : ∀ (bs : List Nat), (ownW b bs).length ≤ 64 * bs.length := by
  intro bs
  induction bs generalizing b with
  | nil => exact Nat.le_refl _
  | cons z zs ih =>
    rw [ownW, List.length_append, List.length_map, List.length_cons]
    have h1 : (bitsOf z).length ≤ 64 := by
      unfold bitsOf
      exact Nat.le_trans (List.length_filter_le _ _) (by simp)
    have := ih (b := b + 64)
    omega
theorem numsX_len : ∀ t : Tr, bsX t → (numsX t).length ≤ 2048 * t.sz
  | .nil, _ => Nat.le_refl _
  | .node _ b bs l r _, ⟨k1, k2, k3⟩ => by
    rw [numsX, List.length_append, List.length_append, Tr.sz]
    have h1 := numsX_len l k2
    have h2 := numsX_len r k3
    have h3 := own_len (b := b) bs
    rw [k1] at h3
    omega
theorem numsG_len : ∀ t : TG, fitG t → (numsG t).length ≤ 2048 * szG t
  | .nil, _ => Nat.le_refl _
  | .node _ b bs l r _, ⟨_, k1, _, k2, k3⟩ => by
    rw [numsG, List.length_append, List.length_append, szG]
    have h1 := numsG_len l k2
    have h2 := numsG_len r k3
    have h3 := own_len (b := b) bs
    rw [k1] at h3
    omega
theorem decT_sz (rs : List (Nat × List Nat × Nat)) : ∀ k, szG (decT rs k) ≤ k
  | 0 => Nat.le_refl _
  | k + 1 => by
    have := decT_sz rs k
    rw [decT]
    split
    · rw [szG_ins]; omega
    · omega
theorem seqs_len (ys : List Nat) (nn : Nat) : (seqs1 ys nn).length ≤ 4096 * nn := by
  unfold seqs1
  rw [List.length_flatMap]
  have : ∀ l : List Nat, (l.map (fun k => (ownW (rec1 ys (10 + 522 * k)).1 (rec1 ys (10 + 522 * k)).2).length)).sum ≤ 4096 * l.length := by
    intro l
    induction l with
    | nil => exact Nat.le_refl _
    | cons a l ih =>
      rw [List.map_cons, List.sum_cons, List.length_cons]
      have := own_len (b := (rec1 ys (10 + 522 * a)).1) (rec1 ys (10 + 522 * a)).2
      have e : (rec1 ys (10 + 522 * a)).2.length = 64 := by simp [rec1]
      rw [e] at this
      omega
  have := this (List.range nn)
  rw [List.length_range] at this
  exact this
theorem okR_at {ys : List Nat} (hy : ∀ y ∈ ys, y < 256) (p : Nat) (h : p + 266 ≤ ys.length) : okR (recAt ys p) := by
  refine ⟨(has_nat hy p 8 (by omega)).2, by simp [recAt], fun z hz => ?_, (has_nat hy (p + 264) 2 (by omega)).2⟩
  obtain ⟨j, hj, rfl⟩ := List.mem_map.1 hz
  have := List.mem_range.1 hj
  exact (has_nat hy (p + 8 + 8 * j) 8 (by omega)).2
theorem has_eq {ys : List Nat} {i : Nat} {l : List Nat} (h : Has ys i l) : (ys.drop i).take l.length = l := by
  obtain ⟨A, C, e, hl⟩ := h
  rw [e, ← hl, List.drop_left, List.take_left]
theorem has_of {ys : List Nat} {i : Nat} {l : List Nat} (h : (ys.drop i).take l.length = l) (hi : i ≤ ys.length) : Has ys i l :=
  ⟨ys.take i, (ys.drop i).drop l.length, by
    have := List.take_append_drop l.length (ys.drop i)
    rw [h] at this
    rw [this, List.take_append_drop], by rw [List.length_take]; omega⟩
theorem has_join {ys : List Nat} {i : Nat} {a b : List Nat} (h : Has ys i a) (k : Has ys (i + a.length) b) : Has ys i (a ++ b) := by
  have hl := h.len
  refine has_of ?_ (by omega)
  rw [List.length_append, List.take_add, List.drop_drop, has_eq h, has_eq k]
theorem has_range {ys : List Nat} (f : Nat → List Nat) (L i : Nat) : ∀ m : Nat, (∀ k, k < m → (f k).length = L) → (∀ k, k < m → Has ys (i + L * k) (f k)) → i ≤ ys.length → Has ys i ((List.range m).flatMap f)
  | 0, _, _, hi => ⟨ys.take i, ys.drop i, by simp, by rw [List.length_take]; omega⟩
  | m + 1, hL, h, hi => by
    have ih := has_range f L i m (fun k hk => hL k (by omega)) (fun k hk => h k (by omega)) hi
    rw [List.range_succ, List.flatMap_append, List.flatMap_cons, List.flatMap_nil, List.append_nil]
    refine has_join ih ?_
    have e : ((List.range m).flatMap f).length = L * m := by
      have : ∀ n, n ≤ m → ((List.range n).flatMap f).length = L * n := by
        intro n
        induction n with
        | zero => intro _; rfl
        | succ n ihn =>
          intro hn
          rw [List.range_succ, List.flatMap_append, List.flatMap_cons, List.flatMap_nil, List.append_nil, List.length_append, ihn (by omega), hL n (by omega), Nat.mul_succ]
      exact this m (Nat.le_refl _)
    rw [e]
    exact h m (by omega)
theorem has_rec {ys : List Nat} (hy : ∀ y ∈ ys, y < 256) (p : Nat) (h : p + 266 ≤ ys.length) : Has ys p (recOf (recAt ys p)) := by
  have e : recOf (recAt ys p) = leN 8 (natAt ys p 8) ++ (((List.range 32).flatMap (fun j => leN 8 (natAt ys (p + 8 + 8 * j) 8))) ++ leN 2 (natAt ys (p + 264) 2)) := by
    rw [recOf, recN, recAt, Int.toNat_natCast, List.flatMap_map]
  rw [e]
  refine has_join (has_nat hy p 8 (by omega)).1 ?_
  rw [leN_len]
  have hm := has_range (ys := ys) (fun j => leN 8 (natAt ys (p + 8 + 8 * j) 8)) 8 (p + 8) 32 (fun k _ => leN_len _ _) (fun k hk => (has_nat hy (p + 8 + 8 * k) 8 (by omega)).1) (by omega)
  refine has_join hm ?_
  have el : ((List.range 32).flatMap (fun j => leN 8 (natAt ys (p + 8 + 8 * j) 8))).length = 256 := by
    have := flat_len ((List.range 32).map (fun j => natAt ys (p + 8 + 8 * j) 8))
    rw [List.flatMap_map] at this
    rw [this]
    simp
  rw [el]
  exact (has_nat hy (p + 264) 2 (by omega)).1
theorem has_head {ys : List Nat} (hy : ∀ y ∈ ys, y < 256) (h10 : 10 ≤ ys.length) (hn : 10 + 266 * natAt ys 2 4 ≤ ys.length) : Has ys 2 (leN 4 (recsAt ys (natAt ys 2 4)).length ++ (leN 4 (natAt ys 6 4) ++ (recsAt ys (natAt ys 2 4)).flatMap recOf)) := by
  rw [recsAt_len]
  refine has_join (has_nat hy 2 4 (by omega)).1 ?_
  rw [leN_len]
  refine has_join (has_nat hy 6 4 (by omega)).1 ?_
  rw [leN_len, recsAt, List.flatMap_map]
  refine has_range _ 266 10 _ (fun k hk => ?_) (fun k hk => ?_) (by omega)
  · exact recN_len (okR_at hy (10 + 266 * k) (by omega)).2.1
  · exact has_rec hy (10 + 266 * k) (by omega)
theorem SetDecode_all (A : Option Addr) (c : Nat) (ys : List Nat) (w : World) (hC : Kd.C (Kd.int .u8) w A (ys.map (fun n : Nat => (n : Int))).length (ys.map (fun n : Nat => (n : Int)))) (hc : (ys.map (fun n : Nat => (n : Int))).length ≤ c) (hy : ∀ y ∈ ys, y < 256) (h600 : ys.length ≤ 1000) (hE : DecLaid w) :
    Calls Tryd.prog 22 #[.slice A (ys.map (fun n : Nat => (n : Int))).length c] w fun e w' => (e = .returned (.tuple #[.slice none 0 0, .int .i64 0, .int .i64 1]) ∧ decA ys = none ∧ Below w.heap.size w w') ∨
      (∃ (U : Int) (v3 : Value), e = .returned (.tuple #[v3, .int .i64 U, .int .i64 0]) ∧ ∃ (L : List Nat) (u : Nat), decA ys = some (L, u) ∧ U = (u : Int) ∧ Kd.R (Kd.int .u64) 32 w' w.heap.size (fun _ => True) v3 (L.map (fun n : Nat => (n : Int))) ∧ Below w.heap.size w w') := by
  refine (SetDecodeG A _ c w (fun v1 w1 => Kd.R (Kd.int .u8) 5 w1 w.heap.size (fun _ => True) v1 (ys.map (fun n : Nat => (n : Int))) ∧ Below w.heap.size w w1) (fun w' => decA ys = none ∧ Below w.heap.size w w')
    (fun U v3 w' => ∃ (L : List Nat) (u : Nat), decA ys = some (L, u) ∧ U = (u : Int) ∧ Kd.R (Kd.int .u64) 32 w' w.heap.size (fun _ => True) v3 (L.map (fun n : Nat => (n : Int))) ∧ Below w.heap.size w w')
    (cp_calls A c (ys.map (fun n : Nat => (n : Int))) (ys.map (fun n : Nat => (n : Int))) w hC hc (by
      unfold cp_f
      simp only [Option.bind_some, List.nil_append, List.length_nil, List.length_map]
      rw [if_pos (by omega)])) ?_)
  rintro v1 w1 ⟨r1, b1⟩
  have hE1 := hE.below b1
  obtain ⟨ta, va, ga⟩ := hE1.a
  obtain ⟨tb, vb, gb⟩ := hE1.b
  have lift : ∀ {w2 : World}, Below w1.heap.size w1 w2 → Below w.heap.size w w2 := fun h => below_two b1 (below_cut h b1.size)
  rcases Nat.lt_or_ge ys.length 10 with hs | hs
  · have ho := Kd.own_of_R r1
    rw [List.length_map] at ho
    obtain ⟨A1, c1, rfl⟩ := own_slice ho
    refine (DecodeS_calls A1 ys.length c1 w1 hs ga).mono ?_
    rintro e w2 ⟨rfl, b2⟩
    exact .inl ⟨_, _, rfl, by rw [decA, if_pos hs], lift b2⟩
  · obtain ⟨g, c1, rfl, hP, hgc, hg⟩ := own_rowP r1 (by omega)
    have n10 : ¬ ys.length < 10 := by omega
    by_cases hz : ys.getD 0 0 = 22
    · have nz : ¬ ys.getD 0 0 ≠ 22 := fun h => h hz
      have g4 : ∀ i, i + 4 ≤ ys.length → natAt ys i 4 < 4294967296 := fun i hi => (has_nat hy i 4 hi).2
      by_cases hv1 : ys.getD 1 0 = 1
      · by_cases hb : (ys.length - 10) / 522 < natAt ys 2 4
        · refine DecodeK1_calls g ys.length c1 ys w1 _ hP hs rfl hz hv1 ((decodeE1 g ys.length c1 (natAt ys 2 4) (natAt ys 6 4) ys w1 ta va hP hgc hs (by omega) (g4 6 (by omega)) (g4 2 (by omega)) (has_nat hy 2 4 (by omega)).1 (has_nat hy 6 4 (by omega)).1 hb ga).mono ?_) ?_
          · rintro e w2 ⟨rfl, b2⟩
            exact .inl ⟨_, _, rfl, by rw [decA, if_neg n10, if_neg nz, if_pos hv1, if_pos hb], lift b2⟩
          · rintro e w2 (⟨_, _, rfl, _⟩ | ⟨_, _, rfl, _⟩) <;> exact ⟨_, _, _, rfl⟩
        · have hl := seqs_len ys (natAt ys 2 4)
          refine DecodeK1_calls g ys.length c1 ys w1 _ hP hs rfl hz hv1 ((decode1_calls g ys.length c1 (natAt ys 2 4) (natAt ys 6 4) ys w1 ta va hP hgc rfl (by omega) (by omega) (g4 6 (by omega)) hy (has_nat hy 2 4 (by omega)).1 (has_nat hy 6 4 (by omega)).1 (by omega) hE1.tab ga).mono ?_) ?_
          · rintro e w2 ⟨b2, ⟨hq, SS, rfl, S2⟩ | ⟨hq, rfl⟩⟩
            · refine .inr ⟨SS, _, rfl, ?_⟩
              obtain ⟨t, X⟩ := S2.set
              obtain ⟨nd, _, hss⟩ := X.ss
              have hn := numsX_len t (bsX_of t X.tr)
              have hsz := X.sz
              have en : numsX (stX (seqs1 ys (natAt ys 2 4))).1 = numsX t := by rw [← X.er, er_numsX]
              refine (allX_walk SS t _ _ w2 hss X.tr X.fit (by omega) (tab_below b2 hE1.tab)).mono ?_
              rintro e w3 ⟨v3, rfl, r3, b3⟩
              exact ⟨v3, rfl, numsX t, 10 + 522 * natAt ys 2 4, by rw [decA, if_neg n10, if_neg nz, if_pos hv1, if_neg hb, if_pos hq, en], rfl, Kd.R_lower r3 (lift b2).size, below_two (lift b2) (below_cut b3 (lift b2).size)⟩
            · exact .inl ⟨_, _, rfl, by rw [decA, if_neg n10, if_neg nz, if_pos hv1, if_neg hb, if_neg hq], lift b2⟩
          · rintro e w2 (⟨_, _, rfl, _⟩ | ⟨_, _, rfl, _⟩) <;> exact ⟨_, _, _, rfl⟩
      · by_cases hv2 : ys.getD 1 0 = 2
        · by_cases hb : (ys.length - 10) / 266 < natAt ys 2 4
          · refine DecodeK2_calls g ys.length c1 ys w1 _ hP hs rfl hz hv2 ((decodeE2 g ys.length c1 (natAt ys 2 4) (natAt ys 6 4) ys w1 ta va hP hgc hs (by omega) (g4 6 (by omega)) (g4 2 (by omega)) (has_nat hy 2 4 (by omega)).1 (has_nat hy 6 4 (by omega)).1 hb ga).mono ?_) ?_
            · rintro e w2 ⟨rfl, b2⟩
              exact .inl ⟨_, _, rfl, by rw [decA, if_neg n10, if_neg nz, if_neg hv1, if_pos hv2, if_pos hb], lift b2⟩
            · rintro e w2 (⟨_, _, rfl, _⟩ | ⟨_, _, rfl, _⟩) <;> exact ⟨_, _, _, rfl⟩
          · have hlen := recsAt_len ys (natAt ys 2 4)
            have hok : ∀ r ∈ recsAt ys (natAt ys 2 4), okR r := fun r hr => by
              obtain ⟨k, hk, rfl⟩ := List.mem_map.1 hr
              have := List.mem_range.1 hk
              exact okR_at hy _ (by omega)
            refine DecodeK2_calls g ys.length c1 ys w1 _ hP hs rfl hz hv2 ((decode2_calls g ys.length c1 (natAt ys 6 4) ys (recsAt ys (natAt ys 2 4)) w1 hP hgc (by rw [hlen]; omega) (by omega) (g4 6 (by omega)) hok (has_head hy hs (by omega))).mono ?_) ?_
            · rintro e w2 ⟨SS, NB, rfl, D2, b2, s2, n2⟩
              rw [hlen] at D2 ⊢
              refine .inr ⟨SS, _, rfl, ?_⟩
              have hNB : NB < w2.heap.size := by
                obtain ⟨cs, h⟩ := D2.nb
                exact (Array.getElem?_eq_some_iff.1 h).1
              have hf := decT_fit (recsAt ys (natAt ys 2 4)) hok (natAt ys 2 4)
              have hn := numsG_len _ hf
              have hsz := decT_sz (recsAt ys (natAt ys 2 4)) (natAt ys 2 4)
              refine (allG_walk SS NB _ _ _ w2 D2.ss D2.tree hf hNB (by omega) (tab_below b2 hE1.tab)).mono ?_
              rintro e w3 ⟨v3, rfl, r3, b3⟩
              exact ⟨v3, rfl, _, 10 + 266 * natAt ys 2 4, by rw [decA, if_neg n10, if_neg nz, if_neg hv1, if_pos hv2, if_neg hb], rfl, Kd.R_lower r3 (lift b2).size, below_two (lift b2) (below_cut b3 (lift b2).size)⟩
            · rintro e w2 (⟨_, _, rfl, _⟩ | ⟨_, _, rfl, _⟩) <;> exact ⟨_, _, _, rfl⟩
        · refine (DecodeV_calls g ys.length c1 ys w1 hP hs rfl hz hv1 hv2 gb).mono ?_
          rintro e w2 ⟨rfl, b2⟩
          exact .inl ⟨_, _, rfl, by rw [decA, if_neg n10, if_neg nz, if_neg hv1, if_neg hv2], lift b2⟩
    · refine (DecodeM_calls g ys.length c1 ys w1 hP hs rfl hz ga).mono ?_
      rintro e w2 ⟨rfl, b2⟩
      exact .inl ⟨_, _, rfl, by rw [decA, if_neg n10, if_pos hz], lift b2⟩

end Go.Proofs.YtjhdnapgdajllaaDoor.SetDecY
