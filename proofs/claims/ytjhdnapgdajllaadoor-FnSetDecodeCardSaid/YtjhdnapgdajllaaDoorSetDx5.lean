/- WALKS: version 1 is read. -/
import Derived.Test.YtjhdnapgdajllaaDoorProg
import Derived.Below
import Derived.Deep.Draws
import Derived.Deep.AppendLies
import Derived.Maps.AppendAt
import Derived.OwnWalk
import Derived.Laws.BytesArg
import Derived.Laws.MakeOwn
import Derived.Laws.OwnMore
import Derived.Deep.OwnRows
import Derived.Tactics
import Derived.Lib.ConvBytes
import Derived.Laws.Slices
import Derived.WalkKit
import Derived.KernelRfl
import Derived.RowKit3
import Derived.Deep.LoopGhost
import Derived.Deep.QuietTactic
import Derived.BigQuiet
import Derived.WideLaws
import Derived.Deep.DeepCutAuto
import Derived.Deep.CutBlock
import Derived.Deep.RegionHeld3
import Derived.Laws.Rows
import Derived.Lib.AppendStr
import Derived.ArgAppend
import Derived.Laws.IdiomCopy
import Derived.OrdersHeld
import Derived.Laws.BitsLemmas
import Derived.RowKit
import Derived.Test.YtjhdnapgdajllaaDoorWWords
import Derived.Test.YtjhdnapgdajllaaDoorWLast
import Derived.Test.YtjhdnapgdajllaaDoorWTab
import Derived.Test.YtjhdnapgdajllaaDoorWFour
import Derived.Test.YtjhdnapgdajllaaDoorWQPut
import Derived.Test.YtjhdnapgdajllaaDoorWApart
import Derived.Test.YtjhdnapgdajllaaDoorWArr
import Derived.Test.YtjhdnapgdajllaaDoorWZeros
import Derived.Test.YtjhdnapgdajllaaDoorWFoot
import Derived.Test.YtjhdnapgdajllaaDoorWKept
import Derived.Test.YtjhdnapgdajllaaDoorWShare
import Derived.Test.YtjhdnapgdajllaaDoorWN
import Derived.Test.YtjhdnapgdajllaaDoorWFootNe
import Derived.Test.YtjhdnapgdajllaaDoorWAt
import Derived.Test.YtjhdnapgdajllaaDoorWEqStruct
import Derived.Test.YtjhdnapgdajllaaDoorWRepsOne
import Derived.Test.YtjhdnapgdajllaaDoorWInv
import Derived.Test.YtjhdnapgdajllaaDoorWInvWords
import Derived.Test.YtjhdnapgdajllaaDoorWGuard
import Derived.Test.YtjhdnapgdajllaaDoorWNEv
import Derived.Test.YtjhdnapgdajllaaDoorWMore
import Derived.Test.YtjhdnapgdajllaaDoorSetDx3
import Derived.Test.YtjhdnapgdajllaaDoorSetDx4
namespace Go.Proofs.YtjhdnapgdajllaaDoor.SetDec1
open Go.RowKit Go.Proofs.YtjhdnapgdajllaaDoorW.PrintWords Go.Proofs.YtjhdnapgdajllaaDoorW.PrintLast Go.Proofs.YtjhdnapgdajllaaDoorW.PrintMore
attribute [local go_sem] max2_int min2_int max_two min_two max_three min_three max_four min_four   -- for this text's walks alone
set_option linter.unusedVariables false
set_option linter.unusedSimpArgs false



open _root_.Go.Proofs.YtjhdnapgdajllaaDoor.SetW _root_.Go.Proofs.YtjhdnapgdajllaaDoor.SetEncW _root_.Go.Proofs.YtjhdnapgdajllaaDoor.SetDecW _root_.Go.Proofs.YtjhdnapgdajllaaDoor.SetIterG _root_.Go.Proofs.YtjhdnapgdajllaaDoor.SetInsXW _root_.Go.Proofs.YtjhdnapgdajllaaDoor.SetDecV
theorem wu64s (x : Int) (a : Nat) (e : x = (a : Int)) (h : a ≤ 100000000000) : IntKind.u64.wrap x = (a : Int) := by
  rw [e]
  exact Road.wu64 _ _ rfl (by omega) (by omega)
def rec1 (ys : List Nat) (p : Nat) : Nat × List Nat := (natAt ys p 8, (List.range 64).map (fun j => natAt ys (p + 8 + 8 * j) 8))
def seqs1 (ys : List Nat) (nn : Nat) : List Nat := (List.range nn).flatMap (fun k => ownW (rec1 ys (10 + 522 * k)).1 (rec1 ys (10 + 522 * k)).2)
theorem leN_leV : ∀ l : List Nat, (∀ y ∈ l, y < 256) → leN l.length (leV l) = l ∧ leV l < 256 ^ l.length
  | [], _ => ⟨rfl, by decide⟩
  | y :: l, h => by
    obtain ⟨h1, h2⟩ := leN_leV l (fun x hx => h x (List.mem_cons_of_mem _ hx))
    have hy := h y List.mem_cons_self
    constructor
    · have e : leN (l.length + 1) (leV (y :: l)) = leV (y :: l) % 256 :: leN l.length (leV (y :: l) / 256) := by
        rw [leN, Lib.leBytes, List.map_cons, Lib.toUInt8_mod]
        rfl
      rw [List.length_cons, e, leV, show (y + 256 * leV l) % 256 = y by omega, show (y + 256 * leV l) / 256 = leV l by omega, h1]
    · rw [List.length_cons, Nat.pow_succ, leV]
      omega
theorem has_nat {ys : List Nat} (hy : ∀ y ∈ ys, y < 256) (i k : Nat) (h : i + k ≤ ys.length) : Has ys i (leN k (natAt ys i k)) ∧ natAt ys i k < 256 ^ k := by
  have hl : ((ys.drop i).take k).length = k := by rw [List.length_take, List.length_drop]; omega
  obtain ⟨h1, h2⟩ := leN_leV ((ys.drop i).take k) (fun y hm => hy y (List.mem_of_mem_drop (List.mem_of_mem_take hm)))
  rw [hl] at h1 h2
  refine ⟨⟨ys.take i, (ys.drop i).drop k, ?_, by rw [List.length_take]; omega⟩, h2⟩
  rw [natAt, h1, List.take_append_drop, List.take_append_drop]
/-- What stays while numbers of version 1 are put in. -/
structure St1 (w0 w : World) (B SS : Nat) (ys L : List Nat) : Prop where
  row : rowP w B ys
  set : ∃ t, XAt w w0.heap.size SS t L
  low : Below w0.heap.size w0 w
theorem St1.keep {w0 w w' : World} {B SS : Nat} {ys L : List Nat} (S : St1 w0 w B SS ys L) (h : Below w.heap.size w w') : St1 w0 w' B SS ys L := by
  obtain ⟨t, X⟩ := S.set
  exact ⟨S.row.keep (h.block B S.row.lt), ⟨t, X.keep h⟩, below_two S.low (below_cut h S.low.size)⟩
theorem SizeX_calls (SS : Nat) (R : Value) (sz nn : Int) (w : World) (h : w.heap[SS]? = some (.cells (ssC R sz nn false) 84 (0, 0))) :
    Calls Tryd.prog 41 #[.pointer (some ⟨SS, 0, none⟩)] w fun e w' => e = .returned (.int .i64 sz) ∧ w' = w := by
  have c1 : w.cell? ⟨SS, 1, none⟩ = some (.int .i64 sz) := cell_of_row w SS 1 _ _ _ h
  clear h
  go_enter Tryd.func41, Tryd.ntmps41
  go_wp2_with fail
  go_ret
  exact ⟨rfl, rfl⟩
set_option maxHeartbeats 16000000 in
set_option maxRecDepth 100000 in
theorem decode1_calls (B n c nn sz : Nat) (ys : List Nat) (w : World) (et : TypeId) (ev : Value) (hB : rowP w B ys) (hnc : n ≤ c) (hyn : n = ys.length) (hn : 10 + 522 * nn ≤ n) (hn2 : n ≤ 100000000) (hsz : sz < 4294967296) (hr : ∀ y ∈ ys, y < 256)
    (h1 : Has ys 2 (leN 4 nn)) (h2 : Has ys 6 (leN 4 sz)) (h3 : (seqs1 ys nn).length ≤ 9999) (hT : TabAt 3 Lib.deBruijn64tab w) (hE : w.cell? ⟨0, 0, none⟩ = some (.iface et ev)) :
    Calls Tryd.prog 56 #[.slice (some ⟨B, 0, none⟩) n c] w fun e w' => Below w.heap.size w w' ∧ (((stX (seqs1 ys nn)).2 = sz ∧ ∃ SS, e = .returned (.tuple #[.pointer (some ⟨SS, 0, none⟩), .int .i64 ((10 + 522 * nn : Nat) : Int), .nilIface]) ∧ St1 w w' B SS ys (seqs1 ys nn)) ∨
      ((stX (seqs1 ys nn)).2 ≠ sz ∧ e = .returned (.tuple #[.pointer none, .int .i64 (-1), .iface et ev]))) := by
  have HTE := Aside0.mk (And.intro hT (And.intro hE hyn))
  clear hT hE
  obtain ⟨n2, hn2'⟩ : ∃ n2, n2 = n - 2 := ⟨_, rfl⟩
  obtain ⟨c2, hc2⟩ : ∃ c2, c2 = c - 2 := ⟨_, rfl⟩
  obtain ⟨n6, hn6⟩ : ∃ n6, n6 = n - 6 := ⟨_, rfl⟩
  obtain ⟨c6, hc6⟩ : ∃ c6, c6 = c - 6 := ⟨_, rfl⟩
  have s1 : ∀ W, (Instr.slice 47 (.slice (some ⟨B, 0, none⟩) n c) (some (.int .i64 2)) none none).run Tryd.prog W = .ok (.slice (some ⟨B, 2, none⟩) n2 c2) W := fun W => by
    rw [hn2', hc2]
    exact slice_i8 B n c 2 (by omega) (by omega) W
  have s2 : ∀ W, (Instr.slice 47 (.slice (some ⟨B, 0, none⟩) n c) (some (.int .i64 6)) none none).run Tryd.prog W = .ok (.slice (some ⟨B, 6, none⟩) n6 c6) W := fun W => by
    rw [hn6, hc6]
    exact slice_i8 B n c 6 (by omega) (by omega) W
  have hlt : B < w.heap.size := hB.lt
  obtain ⟨W1, hW1⟩ : ∃ W1, W1 = w.alloc (.cells #[] 94 (0, 0)) := ⟨_, rfl⟩
  have b1 : Below w.heap.size w W1 := by rw [hW1]; exact below_alloc (Below.refl _ _) _
  have z1 : W1.heap.size = w.heap.size + 1 := by rw [hW1]; simp
  have r1 : rowP W1 B ys := hB.keep (b1.block B hlt)
  obtain ⟨LE, hLE⟩ : ∃ LE, LE = w.heap.size := ⟨_, rfl⟩
  have HG1 := Aside0.mk (get4_calls B 2 n2 c2 nn ys W1.drew (by omega) (by omega) r1 h1)
  have HP := Aside0.mk (And.intro hlt (And.intro b1 (And.intro z1 (And.intro r1 (And.intro hLE (And.intro hnc (And.intro hn (And.intro hn2 (And.intro hsz (And.intro hr (And.intro h2 (And.intro h3 (And.intro hn6 hc6)))))))))))))
  have q1 : nn ≤ 100000000000 := by omega
  have HW1 := Aside0.mk hW1
  clear hlt b1 z1 r1 hLE hnc hn hn2 hsz hr h1 h2 h3 hyn hB hn2' hc2 hn6 hc6 hW1
  have u1 := w64n nn q1
  have u1' := wi64n nn q1
  clear q1
  go_enter Tryd.func56, Tryd.ntmps56
  go_wp2_with fail
  rw [← HW1.out]
  refine start_ (n := 7) (S := fun w' => True) (ds := []) #[false, false, false, false, false, false, false] (by kernel_rfl) rfl rfl trivial (fun hHeld => ?_)
  refine take_ (i := 0) (N := some 15) (v := ?_) (a' := ?_) #[true, false, false, false, false, false, false] rfl rfl (by kernel_rfl) (fun _ _ _ h => h) (Or.inl ⟨by rfl, ?_⟩) hHeld ?_ ?_
  rotate_left
  · intro w' hS'
    have hle := load_le w.heap.size w'
    go_simp
    with_reducible rfl
  rotate_left
  · simp only [Act.put, List.setIfInBounds_toArray, List.set_cons_zero, List.set_cons_succ, i64_w, i32_w]
    rfl
  refine pure_ (i := 1) (N := some 16) (v := ?_) (a' := ?_) #[true, true, false, false, false, false, false] rfl rfl (by kernel_rfl) (fun _ _ _ h => h) (Or.inl ⟨by rfl, ?_⟩) ?_ ?_
  rotate_left
  · intro w'
    go_simp
    with_reducible rfl
  rotate_left
  · simp only [Act.put, List.setIfInBounds_toArray, List.set_cons_zero, List.set_cons_succ, i64_w, i32_w]
    rfl
  refine pure_ (i := 2) (N := some 17) (v := ?_) (a' := ?_) #[true, true, true, false, false, false, false] rfl rfl (by kernel_rfl) (fun _ _ _ h => h) (Or.inl ⟨by rfl, ?_⟩) ?_ ?_
  rotate_left
  · intro w'
    go_simp
    with_reducible rfl
  rotate_left
  · simp only [Act.put, List.setIfInBounds_toArray, List.set_cons_zero, List.set_cons_succ, i64_w, i32_w]
    rfl
  refine pure_ (i := 3) (N := some 18) (v := ?_) (a' := ?_) #[true, true, true, true, false, false, false] rfl rfl (by kernel_rfl) (fun _ _ _ h => h) (Or.inl ⟨by rfl, ?_⟩) ?_ ?_
  rotate_left
  · intro w'
    go_simp
    with_reducible rfl
  rotate_left
  · simp only [Act.put, List.setIfInBounds_toArray, List.set_cons_zero, List.set_cons_succ, i64_w, i32_w]
    rfl
  refine one_ (i := 4) (N := some 19) #[true, true, true, true, true, false, false] rfl rfl (by kernel_rfl) (by decide) (fun K hK => ?_)
  refine goes_ Tryd.func75 (by kernel_rfl) rfl #[.agg #[], .slice (some ⟨B, 2, none⟩) n2 c2] (by rfl) rfl rfl (by simp only [List.map_toArray, List.map_cons, List.map_nil]; rfl) ?_
  refine (HG1.out).mono ?_
  rintro e w4 ⟨rfl, b4⟩
  refine ⟨_, rfl, ?_⟩
  refine hK.out _ _ trivial (fun hHeld => ?_)
  clear hK K
  refine norm_ (a' := ?_) ?_ ?_
  rotate_left
  · show Act.put _ (some 19) _ = _
    simp only [Act.put, List.setIfInBounds_toArray, List.set_cons_zero, List.set_cons_succ, i64_w, i32_w]
    rfl
  refine pure_ (i := 5) (N := some 20) (v := ?_) (a' := ?_) #[true, true, true, true, true, true, false] rfl rfl (by kernel_rfl) (fun _ _ _ h => h) (Or.inl ⟨by rfl, ?_⟩) ?_ ?_
  rotate_left
  · intro w'
    go_simp
    with_reducible rfl
  rotate_left
  · simp only [Act.put, List.setIfInBounds_toArray, List.set_cons_zero, List.set_cons_succ, i64_w, i32_w]
    rfl
  refine pure_ (i := 6) (N := some 7) (v := ?_) (a' := ?_) #[true, true, true, true, true, true, true] rfl rfl (by kernel_rfl) (fun _ _ _ h => h) (Or.inl ⟨by rfl, ?_⟩) ?_ ?_
  rotate_left
  · intro w'
    go_simp
    with_reducible rfl
  rotate_left
  · simp only [Act.put, List.setIfInBounds_toArray, List.set_cons_zero, List.set_cons_succ, i64_w, i32_w]
    rfl
  refine done_ (by kernel_rfl) ?_
  clear u1 u1'
  obtain ⟨hlt, b1, z1, r1, hLE, hnc, hn, hn2, hsz, hr, h2, h3, hn6, hc6⟩ := HP.out
  have b24 : Below w.heap.size w w4 := below_two b1 (below_cut (below_drew b4) b1.size)
  have r4 : rowP w4 B ys := r1.keep ((b24.block B hlt).trans (b1.block B hlt).symm)
  have HG4 := Aside0.mk (get4_calls B 6 n6 c6 sz ys w4.drew hsz (by omega) r4 h2)
  have q2 : sz ≤ 100000000000 := by omega
  have H4 := Aside0.mk (And.intro b24 r4)
  clear hlt b1 z1 r1 hLE hnc hn hn2 hsz hr h2 h3 hn6 hc6 b24 r4 b4 HG1
  have u2 := w64n sz q2
  have u2' := wi64n sz q2
  clear q2
  have v1 : wrap64 6 = 6 := w64n 6 (by decide)
  have v1' : IntKind.i64.wrap 6 = 6 := wi64n 6 (by decide)
  go_wp2_with fail
  refine start_ (n := 8) (S := fun w' => True) (ds := []) #[false, false, false, false, false, false, false, false] (by kernel_rfl) rfl rfl trivial (fun hHeld => ?_)
  refine take_ (i := 0) (N := some 21) (v := ?_) (a' := ?_) #[true, false, false, false, false, false, false, false] rfl rfl (by kernel_rfl) (fun _ _ _ h => h) (Or.inl ⟨by rfl, ?_⟩) hHeld ?_ ?_
  rotate_left
  · intro w' hS'
    have hle := load_le w.heap.size w'
    go_simp
    with_reducible rfl
  rotate_left
  · simp only [Act.put, List.setIfInBounds_toArray, List.set_cons_zero, List.set_cons_succ, i64_w, i32_w]
    rfl
  refine pure_ (i := 1) (N := some 22) (v := ?_) (a' := ?_) #[true, true, false, false, false, false, false, false] rfl rfl (by kernel_rfl) (fun _ _ _ h => h) (Or.inl ⟨by rfl, ?_⟩) ?_ ?_
  rotate_left
  · intro w'
    go_simp
    with_reducible rfl
  rotate_left
  · simp only [Act.put, List.setIfInBounds_toArray, List.set_cons_zero, List.set_cons_succ, i64_w, i32_w]
    rfl
  refine pure_ (i := 2) (N := some 23) (v := ?_) (a' := ?_) #[true, true, true, false, false, false, false, false] rfl rfl (by kernel_rfl) (fun _ _ _ h => h) (Or.inl ⟨by rfl, ?_⟩) ?_ ?_
  rotate_left
  · intro w'
    go_simp
    with_reducible rfl
  rotate_left
  · simp only [Act.put, List.setIfInBounds_toArray, List.set_cons_zero, List.set_cons_succ, i64_w, i32_w]
    rfl
  refine pure_ (i := 3) (N := some 24) (v := ?_) (a' := ?_) #[true, true, true, true, false, false, false, false] rfl rfl (by kernel_rfl) (fun _ _ _ h => h) (Or.inl ⟨by rfl, ?_⟩) ?_ ?_
  rotate_left
  · intro w'
    go_simp
    with_reducible rfl
  rotate_left
  · simp only [Act.put, List.setIfInBounds_toArray, List.set_cons_zero, List.set_cons_succ, i64_w, i32_w]
    rfl
  refine pure_ (i := 4) (N := some 25) (v := ?_) (a' := ?_) #[true, true, true, true, true, false, false, false] rfl rfl (by kernel_rfl) (fun _ _ _ h => h) (Or.inl ⟨by rfl, ?_⟩) ?_ ?_
  rotate_left
  · intro w'
    go_simp
    with_reducible rfl
  rotate_left
  · simp only [Act.put, List.setIfInBounds_toArray, List.set_cons_zero, List.set_cons_succ, i64_w, i32_w]
    rfl
  refine one_ (i := 5) (N := some 26) #[true, true, true, true, true, true, false, false] rfl rfl (by kernel_rfl) (by decide) (fun K hK => ?_)
  refine goes_ Tryd.func75 (by kernel_rfl) rfl #[.agg #[], .slice (some ⟨B, 6, none⟩) n6 c6] (by rfl) rfl rfl (by simp only [List.map_toArray, List.map_cons, List.map_nil]; rfl) ?_
  refine (HG4.out).mono ?_
  rintro e w5 ⟨rfl, b5⟩
  refine ⟨_, rfl, ?_⟩
  refine hK.out _ _ trivial (fun hHeld => ?_)
  clear hK K
  refine norm_ (a' := ?_) ?_ ?_
  rotate_left
  · show Act.put _ (some 26) _ = _
    simp only [Act.put, List.setIfInBounds_toArray, List.set_cons_zero, List.set_cons_succ, i64_w, i32_w]
    rfl
  refine pure_ (i := 6) (N := some 27) (v := ?_) (a' := ?_) #[true, true, true, true, true, true, true, false] rfl rfl (by kernel_rfl) (fun _ _ _ h => h) (Or.inl ⟨by rfl, ?_⟩) ?_ ?_
  rotate_left
  · intro w'
    go_simp
    with_reducible rfl
  rotate_left
  · simp only [Act.put, List.setIfInBounds_toArray, List.set_cons_zero, List.set_cons_succ, i64_w, i32_w]
    rfl
  refine pure_ (i := 7) (N := some 8) (v := ?_) (a' := ?_) #[true, true, true, true, true, true, true, true] rfl rfl (by kernel_rfl) (fun _ _ _ h => h) (Or.inl ⟨by rfl, ?_⟩) ?_ ?_
  rotate_left
  · intro w'
    go_simp
    with_reducible rfl
  rotate_left
  · simp only [Act.put, List.setIfInBounds_toArray, List.set_cons_zero, List.set_cons_succ, i64_w, i32_w]
    rfl
  refine done_ (by kernel_rfl) ?_
  clear u2 u2' v1 v1'
  obtain ⟨hlt, b1, z1, r1, hLE, hnc, hn, hn2, hsz, hr, h2, h3, hn6, hc6⟩ := HP.out
  obtain ⟨b24, r4⟩ := H4.out
  have b25 : Below w.heap.size w w5 := below_two b24 (below_cut (below_drew b5) b24.size)
  have r5 : rowP w5 B ys := r4.keep ((b25.block B hlt).trans (b24.block B hlt).symm)
  obtain ⟨n10, hn10⟩ : ∃ n10, n10 = n - 10 := ⟨_, rfl⟩
  have e3 : (n : Int) - 10 = (n10 : Int) := by omega
  have q3 : n10 ≤ 100000000000 := by omega
  obtain ⟨n11, hn11⟩ : ∃ n11, n11 = n10 / 522 := ⟨_, rfl⟩
  have e4 : (n10 : Int) / 522 = (n11 : Int) := by omega
  have q4 : n11 ≤ 100000000000 := by omega
  have d1 : decide ((nn : Int) < 0) = false := decide_eq_false (by omega)
  have d2 : ¬ ((nn : Int) < 0) := by omega
  have d3 : decide (n11 < nn) = false := decide_eq_false (by omega)
  have d4 : ¬ (n11 < nn) := by omega
  have d5 := eq_true (show nn ≤ n11 by omega)
  have H5 := Aside0.mk (And.intro b25 r5)
  clear hlt b1 z1 r1 hLE hnc hn hn2 hsz hr h2 h3 hn6 hc6 b24 r4 H4 b25 r5 b5 hn10 hn11
  have v3 := w64s _ _ e3 q3
  have v4 := w64s _ _ e4 q4
  clear e3 q3 e4 q4
  go_wp2_with fail
  obtain ⟨hlt, b1, z1, r1, hLE, hnc, hn, hn2, hsz, hr, h2, h3, hn6, hc6⟩ := HP.out
  obtain ⟨b25, r5⟩ := H5.out
  obtain ⟨W6, hW6⟩ : ∃ W6, W6 = w5.alloc (.cells #[.pointer none, .int .i64 0, .int .i64 0, .bool false] 84 (0, 0)) := ⟨_, rfl⟩
  obtain ⟨SS, hSS⟩ : ∃ SS, SS = w5.heap.size := ⟨_, rfl⟩
  obtain ⟨T, hTT⟩ : ∃ T, T = seqs1 ys nn := ⟨_, rfl⟩
  have b56 : Below w5.heap.size w5 W6 := by rw [hW6]; exact below_alloc (Below.refl _ _) _
  have b26 : Below w.heap.size w W6 := below_two b25 (below_cut b56 b25.size)
  have r6 : rowP W6 B ys := r5.keep ((b26.block B hlt).trans (b25.block B hlt).symm)
  have s6 : W6.heap[SS]? = some (.cells (ssC (Tr.nil).p ((stX []).2 : Nat) (0 : Nat) false) 84 (0, 0)) := by rw [hW6, hSS]; exact heap_alloc_new w5 _
  have S0 : St1 w W6 B SS ys [] := ⟨r6, ⟨.nil, trivial, List.Pairwise.nil, trivial, trivial, Nat.le_refl _, rfl, Nat.le_refl _, ⟨0, Nat.le_refl _, s6⟩, by simp [Tr.bl], by rw [hSS]; exact b25.size, fun x hx => absurd hx (by simp [Tr.bl])⟩, b26⟩
  rw [← hW6, ← hSS]
  have H6 := Aside0.mk (And.intro S0 (And.intro hTT (show T.length ≤ 9999 by rw [hTT]; exact h3)))
  clear hlt b1 z1 r1 hLE hnc hn hn2 hsz hr h2 h3 hn6 hc6 b25 r5 hW6 hSS hTT b56 b26 r6 s6 S0 H5 d1 d2 d3 d4 d5 v3 v4 s1 s2 HG4
  go_loopw [6, 10] (fun v6 v10 wx => ∃ (i p : Nat) (L : List Nat), v6 = .int .i64 (p : Int) ∧ v10 = .int .i64 (i : Int) ∧ Aside0 (p = 10 + 522 * i ∧ i ≤ nn) ∧ Aside0 (T = L ++ ((List.range nn).drop i).flatMap (fun k => ownW (rec1 ys (10 + 522 * k)).1 (rec1 ys (10 + 522 * k)).2)) ∧ Aside0 (St1 w wx B SS ys L)) (fun _ v10 _ => Road.leftOf nn v10)
  case atStart => exact ⟨0, 10, [], rfl, rfl, ⟨rfl, Nat.zero_le _⟩, ⟨by rw [H6.out.2.1, seqs1]; rfl⟩, ⟨H6.out.1⟩⟩
  case round =>
    obtain ⟨i, p, L, rfl, rfl, HK, HL, HX⟩ := hrel
    obtain ⟨hp, hin⟩ := HK.out
    obtain ⟨hlt, b1, z1, r1, hLE, hnc, hn, hn2, hsz, hr, h2, h3, hn6, hc6⟩ := HP.out
    have hyn := HTE.out.2.2
    rcases Nat.lt_or_ge i nn with hi | hi
    · have k1 := eq_true (show (i : Int) < (nn : Int) by omega)
      have k2 := eq_true hi
      obtain ⟨b0, hb0⟩ : ∃ b0, b0 = (rec1 ys p).1 := ⟨_, rfl⟩
      obtain ⟨zs, hzs⟩ : ∃ zs, zs = (rec1 ys p).2 := ⟨_, rfl⟩
      obtain ⟨Rs, hRs⟩ : ∃ Rs, Rs = ((List.range nn).drop (i + 1)).flatMap (fun k => ownW (rec1 ys (10 + 522 * k)).1 (rec1 ys (10 + 522 * k)).2) := ⟨_, rfl⟩
      have hzl : zs.length = 64 := by rw [hzs]; simp [rec1]
      have eT : T = L ++ (ownW (b0 + 64 * 0) (zs.drop 0) ++ Rs) := by
        rw [HL.out, List.drop_eq_getElem_cons (by rw [List.length_range]; exact hi), List.flatMap_cons, List.getElem_range, ← hp, ← hb0, ← hzs, ← hRs]
        rfl
      have hg := has_nat hr p 8 (by omega)
      rw [show natAt ys p 8 = b0 by rw [hb0]; rfl] at hg
      obtain ⟨m3, hm3⟩ : ∃ m3, m3 = n - p := ⟨_, rfl⟩
      obtain ⟨m4, hm4⟩ : ∃ m4, m4 = c - p := ⟨_, rfl⟩
      have s3 : ∀ W, (Instr.slice 47 (.slice (some ⟨B, 0, none⟩) n c) (some (.int .i64 (p : Int))) none none).run Tryd.prog W = .ok (.slice (some ⟨B, p, none⟩) m3 m4) W := fun W => by
        rw [hm3, hm4]
        exact slice_i8 B n c p (by omega) (by omega) W
      have HG5 := Aside0.mk (get8_calls B p m3 m4 b0 ys wr.drew hg.2 (by omega) HX.out.row hg.1)
      obtain ⟨q0, hq0⟩ : ∃ q0, q0 = p + 8 := ⟨_, rfl⟩
      have e6 : (p : Int) + 8 = (q0 : Int) := by omega
      have q6 : q0 ≤ 100000000000 := by omega
      have HR := Aside0.mk (And.intro hi (And.intro eT (And.intro hzl (And.intro hzs (And.intro hRs (And.intro hq0 hg.2))))))
      clear hlt b1 z1 r1 hLE hnc hn hn2 hsz hr h2 h3 hn6 hc6 hyn hp hin hi hb0 hzs hRs hzl eT hg hm3 hm4 hq0
      go_wp2_with fail
      refine start_ (n := 6) (S := fun w' => True) (ds := []) #[false, false, false, false, false, false] (by kernel_rfl) rfl rfl trivial (fun hHeld => ?_)
      refine take_ (i := 0) (N := some 46) (v := ?_) (a' := ?_) #[true, false, false, false, false, false] rfl rfl (by kernel_rfl) (fun _ _ _ h => h) (Or.inl ⟨by rfl, ?_⟩) hHeld ?_ ?_
      rotate_left
      · intro w' hS'
        have hle := load_le w.heap.size w'
        go_simp
        with_reducible rfl
      rotate_left
      · simp only [Act.put, List.setIfInBounds_toArray, List.set_cons_zero, List.set_cons_succ, i64_w, i32_w]
        rfl
      refine pure_ (i := 1) (N := some 47) (v := ?_) (a' := ?_) #[true, true, false, false, false, false] rfl rfl (by kernel_rfl) (fun _ _ _ h => h) (Or.inl ⟨by rfl, ?_⟩) ?_ ?_
      rotate_left
      · intro w'
        go_simp
        with_reducible rfl
      rotate_left
      · simp only [Act.put, List.setIfInBounds_toArray, List.set_cons_zero, List.set_cons_succ, i64_w, i32_w]
        rfl
      refine pure_ (i := 2) (N := some 48) (v := ?_) (a' := ?_) #[true, true, true, false, false, false] rfl rfl (by kernel_rfl) (fun _ _ _ h => h) (Or.inl ⟨by rfl, ?_⟩) ?_ ?_
      rotate_left
      · intro w'
        go_simp
        with_reducible rfl
      rotate_left
      · simp only [Act.put, List.setIfInBounds_toArray, List.set_cons_zero, List.set_cons_succ, i64_w, i32_w]
        rfl
      refine pure_ (i := 3) (N := some 49) (v := ?_) (a' := ?_) #[true, true, true, true, false, false] rfl rfl (by kernel_rfl) (fun _ _ _ h => h) (Or.inl ⟨by rfl, ?_⟩) ?_ ?_
      rotate_left
      · intro w'
        go_simp
        with_reducible rfl
      rotate_left
      · simp only [Act.put, List.setIfInBounds_toArray, List.set_cons_zero, List.set_cons_succ, i64_w, i32_w]
        rfl
      refine one_ (i := 4) (N := some 50) #[true, true, true, true, true, false] rfl rfl (by kernel_rfl) (by decide) (fun K hK => ?_)
      refine goes_ Tryd.func76 (by kernel_rfl) rfl #[.agg #[], .slice (some ⟨B, p, none⟩) m3 m4] (by rfl) rfl rfl (by simp only [List.map_toArray, List.map_cons, List.map_nil]; rfl) ?_
      refine (HG5.out).mono ?_
      rintro e w7 ⟨rfl, b7⟩
      refine ⟨_, rfl, ?_⟩
      refine hK.out _ _ trivial (fun hHeld => ?_)
      clear hK K
      refine norm_ (a' := ?_) ?_ ?_
      rotate_left
      · show Act.put _ (some 50) _ = _
        simp only [Act.put, List.setIfInBounds_toArray, List.set_cons_zero, List.set_cons_succ, i64_w, i32_w]
        rfl
      refine pure_ (i := 5) (N := some 11) (v := ?_) (a' := ?_) #[true, true, true, true, true, true] rfl rfl (by kernel_rfl) (fun _ _ _ h => h) (Or.inl ⟨by rfl, ?_⟩) ?_ ?_
      rotate_left
      · intro w'
        go_simp
        with_reducible rfl
      rotate_left
      · simp only [Act.put, List.setIfInBounds_toArray, List.set_cons_zero, List.set_cons_succ, i64_w, i32_w]
        rfl
      refine done_ (by kernel_rfl) ?_
      have H7 := Aside0.mk (HX.out.keep (below_drew b7))
      clear HX b7 HG5 s3
      have v5 := w64s _ _ e6 q6
      have HQ5 := Aside0.mk v5
      clear e6 q6
      go_wp2_with fail
      clear v5
      go_loopw [6, 12] (fun v6 v12 wx => ∃ (k q : Nat) (L2 : List Nat), v6 = .int .i64 (q : Int) ∧ v12 = .int .u64 (k : Int) ∧ Aside0 (q = p + 8 + 8 * k ∧ k ≤ 64) ∧ Aside0 (T = L2 ++ (ownW (b0 + 64 * k) (zs.drop k) ++ Rs)) ∧ Aside0 (St1 w wx B SS ys L2)) (fun _ v12 _ => Road.leftOf 64 v12)
      case atStart => exact ⟨0, q0, L, congrArg (Value.int .i64) HQ5.out, rfl, ⟨HR.out.2.2.2.2.2.1, by omega⟩, ⟨HR.out.2.1⟩, H7⟩
      case round =>
        obtain ⟨k, q, L2, rfl, rfl, HJ, HL2, HY⟩ := hrel
        obtain ⟨hq, hk64⟩ := HJ.out
        obtain ⟨hlt, b1, z1, r1, hLE, hnc, hn, hn2, hsz, hr, h2, h3, hn6, hc6⟩ := HP.out
        obtain ⟨hi, eT, hzl, hzs, hRs, hq0, hb64⟩ := HR.out
        obtain ⟨hp, hin⟩ := HK.out
        have hyn := HTE.out.2.2
        rcases Nat.lt_or_ge k 64 with hk | hk
        · have k3 := eq_true (show (k : Int) < 64 by omega)
          have k4 := eq_true hk
          have hkb : k < zs.length := by rw [hzl]; exact hk
          obtain ⟨z, hz⟩ : ∃ z, z = zs[k] := ⟨_, rfl⟩
          have hzn : z = natAt ys q 8 := by
            rw [hz, hq]
            simp [hzs, rec1]
          have hg := has_nat hr q 8 (by omega)
          rw [← hzn] at hg
          obtain ⟨Bq, hBq⟩ : ∃ Bq, Bq = (b0 + 64 * k) % 18446744073709551616 := ⟨_, rfl⟩
          have hdrop : ownW (b0 + 64 * k) (zs.drop k) = (bitsOf z).map (fun j => (Bq + j) % 18446744073709551616) ++ ownW (b0 + 64 * (k + 1)) (zs.drop (k + 1)) := by
            rw [List.drop_eq_getElem_cons hkb, ownW, hBq, hz, show b0 + 64 * (k + 1) = b0 + 64 * k + 64 by omega]
            simp only [Nat.mod_add_mod]
          obtain ⟨m5, hm5⟩ : ∃ m5, m5 = n - q := ⟨_, rfl⟩
          obtain ⟨m6, hm6⟩ : ∃ m6, m6 = c - q := ⟨_, rfl⟩
          have s4 : ∀ W, (Instr.slice 47 (.slice (some ⟨B, 0, none⟩) n c) (some (.int .i64 (q : Int))) none none).run Tryd.prog W = .ok (.slice (some ⟨B, q, none⟩) m5 m6) W := fun W => by
            rw [hm5, hm6]
            exact slice_i8 B n c q (by omega) (by omega) W
          have HG6 := Aside0.mk (get8_calls B q m5 m6 z ys wr.drew hg.2 (by omega) HY.out.row hg.1)
          obtain ⟨q1, hq1⟩ : ∃ q1, q1 = q + 8 := ⟨_, rfl⟩
          obtain ⟨k1', hk1⟩ : ∃ k1', k1' = k + 1 := ⟨_, rfl⟩
          obtain ⟨m, hm⟩ : ∃ m, m = 64 * k := ⟨_, rfl⟩
          have e6 : (q : Int) + 8 = (q1 : Int) := by omega
          have q6 : q1 ≤ 100000000000 := by omega
          have e7 : (k : Int) + 1 = (k1' : Int) := by omega
          have q7 : k1' ≤ 100000000000 := by omega
          have e8 : (k : Int) * 64 = (m : Int) := by omega
          have q8 : m ≤ 100000000000 := by omega
          have u3 : IntKind.u64.wrap ((b0 : Int) + (m : Int)) = (Bq : Int) := by rw [hBq, hm, ← wu64m, Int.natCast_add]
          have HV := Aside0.mk (And.intro hdrop (And.intro hk (And.intro hq1 (And.intro hk1 (And.intro (And.intro e6 q6) (And.intro (And.intro e7 q7) (And.intro (And.intro e8 q8) (And.intro hg.2 u3))))))))
          clear hq hk64 hlt b1 z1 r1 hLE hnc hn hn2 hsz hr h2 h3 hn6 hc6 hi eT hzl hzs hRs hq0 hp hin hyn hk hkb hz hzn hg hBq hdrop hm5 hm6 e6 q6 e7 q7 e8 q8 hq1 hk1 hm u3 hb64
          go_wp2_with fail
          refine start_ (n := 6) (S := fun w' => True) (ds := []) #[false, false, false, false, false, false] (by kernel_rfl) rfl rfl trivial (fun hHeld => ?_)
          refine take_ (i := 0) (N := some 57) (v := ?_) (a' := ?_) #[true, false, false, false, false, false] rfl rfl (by kernel_rfl) (fun _ _ _ h => h) (Or.inl ⟨by rfl, ?_⟩) hHeld ?_ ?_
          rotate_left
          · intro w' hS'
            have hle := load_le w.heap.size w'
            go_simp
            with_reducible rfl
          rotate_left
          · simp only [Act.put, List.setIfInBounds_toArray, List.set_cons_zero, List.set_cons_succ, i64_w, i32_w]
            rfl
          refine pure_ (i := 1) (N := some 58) (v := ?_) (a' := ?_) #[true, true, false, false, false, false] rfl rfl (by kernel_rfl) (fun _ _ _ h => h) (Or.inl ⟨by rfl, ?_⟩) ?_ ?_
          rotate_left
          · intro w'
            go_simp
            with_reducible rfl
          rotate_left
          · simp only [Act.put, List.setIfInBounds_toArray, List.set_cons_zero, List.set_cons_succ, i64_w, i32_w]
            rfl
          refine pure_ (i := 2) (N := some 59) (v := ?_) (a' := ?_) #[true, true, true, false, false, false] rfl rfl (by kernel_rfl) (fun _ _ _ h => h) (Or.inl ⟨by rfl, ?_⟩) ?_ ?_
          rotate_left
          · intro w'
            go_simp
            with_reducible rfl
          rotate_left
          · simp only [Act.put, List.setIfInBounds_toArray, List.set_cons_zero, List.set_cons_succ, i64_w, i32_w]
            rfl
          refine pure_ (i := 3) (N := some 60) (v := ?_) (a' := ?_) #[true, true, true, true, false, false] rfl rfl (by kernel_rfl) (fun _ _ _ h => h) (Or.inl ⟨by rfl, ?_⟩) ?_ ?_
          rotate_left
          · intro w'
            go_simp
            with_reducible rfl
          rotate_left
          · simp only [Act.put, List.setIfInBounds_toArray, List.set_cons_zero, List.set_cons_succ, i64_w, i32_w]
            rfl
          refine one_ (i := 4) (N := some 61) #[true, true, true, true, true, false] rfl rfl (by kernel_rfl) (by decide) (fun K hK => ?_)
          refine goes_ Tryd.func76 (by kernel_rfl) rfl #[.agg #[], .slice (some ⟨B, q, none⟩) m5 m6] (by rfl) rfl rfl (by simp only [List.map_toArray, List.map_cons, List.map_nil]; rfl) ?_
          refine (HG6.out).mono ?_
          rintro e w8 ⟨rfl, b8⟩
          refine ⟨_, rfl, ?_⟩
          refine hK.out _ _ trivial (fun hHeld => ?_)
          clear hK K
          refine norm_ (a' := ?_) ?_ ?_
          rotate_left
          · show Act.put _ (some 61) _ = _
            simp only [Act.put, List.setIfInBounds_toArray, List.set_cons_zero, List.set_cons_succ, i64_w, i32_w]
            rfl
          refine pure_ (i := 5) (N := some 13) (v := ?_) (a' := ?_) #[true, true, true, true, true, true] rfl rfl (by kernel_rfl) (fun _ _ _ h => h) (Or.inl ⟨by rfl, ?_⟩) ?_ ?_
          rotate_left
          · intro w'
            go_simp
            with_reducible rfl
          rotate_left
          · simp only [Act.put, List.setIfInBounds_toArray, List.set_cons_zero, List.set_cons_succ, i64_w, i32_w]
            rfl
          refine done_ (by kernel_rfl) ?_
          have H8 := Aside0.mk (HY.out.keep (below_drew b8))
          clear HY b8 HG6 s4
          go_wp2_with fail
          go_loopw [13] (fun v13 wx => ∃ (y : Nat) (L3 : List Nat), v13 = .int .u64 (y : Int) ∧ Aside0 (y < 18446744073709551616) ∧ Aside0 (T = L3 ++ ((bitsOf y).map (fun j => (Bq + j) % 18446744073709551616) ++ (ownW (b0 + 64 * (k + 1)) (zs.drop (k + 1)) ++ Rs))) ∧ Aside0 (St1 w wx B SS ys L3)) (fun v13 _ => Road_natOf v13)
          case atStart => exact ⟨z, L2, rfl, ⟨HV.out.2.2.2.2.2.2.2.1⟩, ⟨by rw [HL2.out, HV.out.1, List.append_assoc]⟩, H8⟩
          case round =>
            obtain ⟨y, L3, rfl, HYL, HL3, HZ⟩ := hrel
            by_cases hy0 : y = 0
            · have z1 : ((y : Int) != 0) = false := bne_eq_false_iff_eq.2 (by omega)
              have z2 : decide (y = 0) = true := decide_eq_true hy0
              have z3 := eq_true hy0
              have HY0 := Aside0.mk hy0
              clear hy0
              have v5 := w64s _ _ HV.out.2.2.2.2.1.1 HV.out.2.2.2.2.1.2
              have v6 := wu64s _ _ HV.out.2.2.2.2.2.1.1 HV.out.2.2.2.2.2.1.2
              go_wp2_with fail
              clear v5 v6
              go_roundw
              case rel =>
                obtain ⟨hdrop, hk, hq1, hk1, ⟨x1, x2⟩, ⟨x3, x4⟩, -⟩ := HV.out
                refine ⟨k1', q1, L3, ?_, ?_, ⟨by have := HJ.out.1; omega, by omega⟩, ⟨?_⟩, HZ⟩
                · first | rfl | exact congrArg (Value.int .i64) (w64s _ _ x1 x2)
                · first | rfl | exact congrArg (Value.int .u64) (wu64s _ _ x3 x4)
                · rw [HL3.out, HY0.out, bitsOf_zero, List.map_nil, List.nil_append, hk1]
              case measure =>
                first | (rw [HV.out.2.2.2.1]; exact Road.leftOf_lt HV.out.2.1) | (rw [wu64s _ _ HV.out.2.2.2.2.2.1.1 HV.out.2.2.2.2.2.1.2, HV.out.2.2.2.1]; exact Road.leftOf_lt HV.out.2.1)
            · have z1 : ((y : Int) != 0) = true := bne_iff_ne.2 (fun e => hy0 (Int.ofNat.inj e))
              have z2 : decide (y = 0) = false := decide_eq_false hy0
              have z3 := eq_false hy0
              obtain ⟨cz, hc⟩ : ∃ c, c = Lib.ctz 64 y := ⟨_, rfl⟩
              have hc64 : cz < 64 := by rw [hc]; exact (Lib.lowest_bit 64 y hy0 HYL.out).2
              obtain ⟨nw, hnw⟩ : ∃ nw, nw = (Bq + cz) % 18446744073709551616 := ⟨_, rfl⟩
              have hnM : nw < 18446744073709551616 := by rw [hnw]; exact Nat.mod_lt _ (by decide)
              have hys : (bitsOf y).map (fun j => (Bq + j) % 18446744073709551616) = nw :: (bitsOf (y &&& (y - 1))).map (fun j => (Bq + j) % 18446744073709551616) := by rw [bitsOf_step y hy0 HYL.out, hnw, hc]; rfl
              obtain ⟨y1, hy1⟩ : ∃ x, x = y - 1 := ⟨_, rfl⟩
              obtain ⟨y2, hy2⟩ : ∃ x, x = y &&& y1 := ⟨_, rfl⟩
              have hyM := HYL.out
              have hy2l : y2 < y := by
                have : y2 ≤ y1 := by rw [hy2]; exact Nat.and_le_right
                omega
              have htz := tz_calls y HYL.out hy0 wr (tab_below HZ.out.low HTE.out.1)
              rw [← hc] at htz
              rw [hy1] at hy2
              obtain ⟨t, X⟩ := HZ.out.set
              have hlen : L3.length ≤ 9999 := by
                have h1 := H6.out.2.2
                rw [HL3.out, List.length_append] at h1
                omega
              have hput := XAt.put B w.heap.size SS nw ys t L3 wr X hlen hnM HZ.out.row HP.out.1 HZ.out.low.size
              have HPU := Aside0.mk hput
              have HCC := Aside0.mk (And.intro hys (And.intro hy2 hy2l))
              have e11 : (y : Int) - 1 = (y1 : Int) := by omega
              have y1M : y1 < 18446744073709551616 := by omega
              have u4 : IntKind.u64.wrap (cz : Int) = (cz : Int) := wu64s _ _ rfl (by omega)
              have u5 : IntKind.u64.wrap ((Bq : Int) + (cz : Int)) = (nw : Int) := by rw [hnw, ← wu64m, Int.natCast_add]
              have u6 : IntKind.u64.wrap ((y : Int) - 1) = (y1 : Int) := by rw [e11, wu64m, Nat.mod_eq_of_lt y1M]
              have u7 : bits .and .u64 (y : Int) (y1 : Int) = (y2 : Int) := by rw [hy2, ← hy1]; exact and_u64 y y1 hyM y1M
              have u3 := HV.out.2.2.2.2.2.2.2.2
              have u2 := wu64s _ _ HV.out.2.2.2.2.2.2.1.1 HV.out.2.2.2.2.2.2.1.2
              clear hy0 hc hc64 hnw hnM hys hy1 hy2 hy2l hyM X hlen hput e11 y1M
              go_wp2_with fail
              refine htz.mono ?_
              clear htz
              rintro e w8a ⟨rfl, rfl⟩
              go_wp2_with fail
              refine HPU.out.mono ?_
              rintro e w9 ⟨rfl, X9, r9, b9⟩
              have H9 := Aside0.mk (show St1 w w9 B SS ys (L3 ++ [nw]) from ⟨r9, X9, below_two HZ.out.low b9⟩)
              clear X9 r9 b9 HPU
              go_wp2_with fail
              go_roundw
              case rel =>
                refine ⟨y2, L3 ++ [nw], rfl, ⟨by have := HCC.out.2.2; have := HYL.out; omega⟩, ⟨?_⟩, H9⟩
                rw [HL3.out, HCC.out.1, List.cons_append, ← HCC.out.2.1, List.append_assoc]
                rfl
              case measure =>
                show (y2 : Int).toNat < (y : Int).toNat
                have := HCC.out.2.2
                omega
        · obtain rfl : k = 64 := by omega
          have k3 := eq_false (show ¬ ((64 : Int) < 64) by omega)
          obtain ⟨q1, hq1⟩ : ∃ q1, q1 = q + 2 := ⟨_, rfl⟩
          obtain ⟨i1, hi1⟩ : ∃ i1, i1 = i + 1 := ⟨_, rfl⟩
          have e6 : (q : Int) + 2 = (q1 : Int) := by omega
          have q6 : q1 ≤ 100000000000 := by omega
          have e7 : (i : Int) + 1 = (i1 : Int) := by omega
          have q7 : i1 ≤ 100000000000 := by omega
          have eL : T = L2 ++ Rs := by
            rw [HL2.out, List.drop_of_length_le (Nat.le_of_eq hzl)]
            rfl
          have HV := Aside0.mk (And.intro hq1 (And.intro hi1 (And.intro (And.intro e6 q6) (And.intro (And.intro e7 q7) eL))))
          clear hq hk64 hlt b1 z1 r1 hLE hnc hn hn2 hsz hr h2 h3 hn6 hc6 hi eT hzl hzs hRs hq0 hp hin hyn hk eL e6 q6 e7 q7 hq1 hi1 hb64
          have v5 := w64s _ _ HV.out.2.2.1.1 HV.out.2.2.1.2
          have v6 := w64s _ _ HV.out.2.2.2.1.1 HV.out.2.2.2.1.2
          go_wp2_with fail
          clear v5 v6
          go_roundw
          case rel =>
            obtain ⟨hq1, hi1, ⟨x1, x2⟩, ⟨x3, x4⟩, eL⟩ := HV.out
            refine ⟨i1, q1, L2, ?_, ?_, ⟨by have := HJ.out.1; have := HK.out.1; omega, by have := HR.out.1; omega⟩, ⟨?_⟩, HY⟩
            · first | rfl | exact congrArg (Value.int .i64) (w64s _ _ x1 x2)
            · first | rfl | exact congrArg (Value.int .i64) (w64s _ _ x3 x4)
            · rw [eL, HR.out.2.2.2.2.1, hi1]
          case measure =>
            first | (rw [HV.out.2.1]; exact Road.leftOf_lt HR.out.1) | (rw [w64s _ _ HV.out.2.2.2.1.1 HV.out.2.2.2.1.2, HV.out.2.1]; exact Road.leftOf_lt HR.out.1)
    · obtain rfl : i = nn := by omega
      have k1 := eq_false (show ¬ ((i : Int) < (i : Int)) by omega)
      have eL : T = L := by
        rw [HL.out, List.drop_of_length_le (by rw [List.length_range]; exact Nat.le_refl _), List.flatMap_nil, List.append_nil]
      obtain ⟨t, X⟩ := HX.out.set
      obtain ⟨nd, _, hss⟩ := X.ss
      have HSZ := Aside0.mk (SizeX_calls SS t.p ((stX L).2 : Nat) nd wr hss)
      have HEL := Aside0.mk (And.intro eL hp)
      have hgl : 0 < w.heap.size := by
        by_cases hk : 0 < w.heap.size
        · exact hk
        · have hE := HTE.out.2.1
          simp [World.cell?, Array.getElem?_eq_none (Nat.le_of_not_lt hk)] at hE
      have ce : wr.cell? ⟨0, 0, none⟩ = some (.iface et ev) := (cell_of_heap (HX.out.low.block _ hgl) 0).trans HTE.out.2.1
      by_cases hcs : (stX L).2 = sz
      · have d1 : (((stX L).2 : Int) != (sz : Int)) = false := bne_eq_false_iff_eq.2 (by omega)
        have d2 : decide ((stX L).2 = sz) = true := decide_eq_true hcs
        have d3 := eq_true hcs
        have HCS := Aside0.mk hcs
        clear hcs eL hp hin hlt b1 z1 r1 hLE hnc hn hn2 hsz hr h2 h3 hn6 hc6 hyn hi X hss hgl
        go_wp2_with fail
        refine HSZ.out.mono ?_
        rintro e w9 ⟨rfl, rfl⟩
        go_wp2_with fail
        refine bodyPost_ret (results_tmp3 rfl _ _ _) rfl ?_
        refine ⟨HX.out.low, .inl ⟨by rw [← H6.out.2.1, HEL.out.1]; exact HCS.out, SS, by (show Ending.returned (.tuple #[.pointer (some ⟨SS, 0, none⟩), .int .i64 (p : Int), .nilIface]) = _; rw [HEL.out.2]), by rw [← H6.out.2.1, HEL.out.1]; exact HX.out⟩⟩
      · have d1 : (((stX L).2 : Int) != (sz : Int)) = true := bne_iff_ne.2 (by omega)
        have d2 : decide ((stX L).2 = sz) = false := decide_eq_false hcs
        have d3 := eq_false hcs
        have HCS := Aside0.mk hcs
        clear hcs eL hp hin hlt b1 z1 r1 hLE hnc hn hn2 hsz hr h2 h3 hn6 hc6 hyn hi X hss hgl
        go_wp2_with fail
        refine HSZ.out.mono ?_
        rintro e w9 ⟨rfl, rfl⟩
        go_wp2_with fail
        go_region
        go_wp2_with fail
        refine bodyPost_ret (results_tmp3 rfl _ _ _) rfl ?_
        exact ⟨by first | exact HX.out.low | exact pw_below_drewN HX.out.low 1, .inr ⟨by rw [← H6.out.2.1, HEL.out.1]; exact HCS.out, rfl⟩⟩

end Go.Proofs.YtjhdnapgdajllaaDoor.SetDec1
