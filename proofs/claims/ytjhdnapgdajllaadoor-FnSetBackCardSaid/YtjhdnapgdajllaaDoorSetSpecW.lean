/- WALKS: the package spec's sets. -/
import Derived.Test.YtjhdnapgdajllaaDoorProg
import Derived.Below
import Derived.Deep.Draws
import Derived.Deep.AppendLies
import Derived.Maps.AppendAt
import Derived.OwnWalk
import Derived.Laws.BytesArg
import Derived.Laws.MakeOwn
import Derived.Laws.OwnMore
import Derived.Deep.OwnRows
import Derived.Tactics
import Derived.Lib.ConvBytes
import Derived.Laws.Slices
import Derived.WalkKit
import Derived.KernelRfl
import Derived.RowKit3
import Derived.Deep.LoopGhost
import Derived.Deep.QuietTactic
import Derived.BigQuiet
import Derived.WideLaws
import Derived.Deep.DeepCutAuto
import Derived.Deep.CutBlock
import Derived.Deep.RegionHeld3
import Derived.Laws.Rows
import Derived.Lib.AppendStr
import Derived.ArgAppend
import Derived.Laws.IdiomCopy
import Derived.OrdersHeld
import Derived.Laws.BitsLemmas
import Derived.RowKit
import Derived.Test.YtjhdnapgdajllaaDoorWWords
import Derived.Test.YtjhdnapgdajllaaDoorWLast
import Derived.Test.YtjhdnapgdajllaaDoorWTab
import Derived.Test.YtjhdnapgdajllaaDoorWFour
import Derived.Test.YtjhdnapgdajllaaDoorWQPut
import Derived.Test.YtjhdnapgdajllaaDoorWApart
import Derived.Test.YtjhdnapgdajllaaDoorWArr
import Derived.Test.YtjhdnapgdajllaaDoorWZeros
import Derived.Test.YtjhdnapgdajllaaDoorWFoot
import Derived.Test.YtjhdnapgdajllaaDoorWKept
import Derived.Test.YtjhdnapgdajllaaDoorWShare
import Derived.Test.YtjhdnapgdajllaaDoorWN
import Derived.Test.YtjhdnapgdajllaaDoorWFootNe
import Derived.Test.YtjhdnapgdajllaaDoorWAt
import Derived.Test.YtjhdnapgdajllaaDoorWEqStruct
import Derived.Test.YtjhdnapgdajllaaDoorWRepsOne
import Derived.Test.YtjhdnapgdajllaaDoorWInv
import Derived.Test.YtjhdnapgdajllaaDoorWInvWords
import Derived.Test.YtjhdnapgdajllaaDoorWGuard
import Derived.Test.YtjhdnapgdajllaaDoorWNEv
import Derived.Test.YtjhdnapgdajllaaDoorWMore
import Derived.Test.YtjhdnapgdajllaaDoorSetW
namespace Go.Proofs.YtjhdnapgdajllaaDoor.SetSpecW
open Go.RowKit Go.Proofs.YtjhdnapgdajllaaDoorW.PrintWords Go.Proofs.YtjhdnapgdajllaaDoorW.PrintLast Go.Proofs.YtjhdnapgdajllaaDoorW.PrintMore
attribute [local go_sem] max2_int min2_int max_two min_two max_three min_three max_four min_four   -- for this text's walks alone
set_option linter.unusedVariables false
set_option linter.unusedSimpArgs false



open _root_.Go.Proofs.YtjhdnapgdajllaaDoor.SetW
/-- The library's table lies there. -/
structure TabLaid (w : World) : Prop where
  tab : TabAt 3 Lib.deBruijn64tab w
theorem TabLaid.below {w0 w : World} (h : TabLaid w0) (hb : Below w0.heap.size w0 w) : TabLaid w := ⟨tab_below hb h.tab⟩
def posL (n : Nat) : List Nat → Nat
  | [] => 0
  | x :: xs => if x < n then posL n xs + 1 else 0
def isL (n : Nat) (L : List Nat) : Bool := L[posL n L]? == some n
theorem posL_le (n : Nat) : ∀ L : List Nat, posL n L ≤ L.length
  | [] => Nat.le_refl _
  | x :: xs => by
    have := posL_le n xs
    rw [posL, List.length_cons]
    split <;> omega
theorem posL_lt (n : Nat) : ∀ (L : List Nat) (k : Nat), k < posL n L → ∃ x, L[k]? = some x ∧ x < n
  | [], k, h => absurd h (by simp [posL])
  | x :: xs, k, h => by
    rw [posL] at h
    split at h
    · rename_i c
      cases k with
      | zero => exact ⟨x, rfl, c⟩
      | succ k =>
        obtain ⟨y, h1, h2⟩ := posL_lt n xs k (by omega)
        exact ⟨y, by rw [List.getElem?_cons_succ]; exact h1, h2⟩
    · omega
theorem posL_next (n : Nat) : ∀ (L : List Nat) (k x : Nat), k ≤ posL n L → L[k]? = some x → (x < n ↔ k + 1 ≤ posL n L)
  | [], k, x, _, h => absurd h (by simp)
  | y :: ys, k, x, hk, h => by
    rw [posL] at hk ⊢
    cases k with
    | zero =>
      rw [List.getElem?_cons_zero] at h
      obtain rfl := Option.some.inj h
      split <;> omega
    | succ k =>
      rw [List.getElem?_cons_succ] at h
      split at hk
      · rename_i c
        rw [if_pos c]
        have := posL_next n ys k x (by omega) h
        omega
      · omega
theorem isL_insL (n : Nat) : ∀ L : List Nat, insL n L = if isL n L = true then L else L.take (posL n L) ++ n :: L.drop (posL n L)
  | [] => rfl
  | x :: xs => by
    have ih := isL_insL n xs
    rw [insL, isL, posL]
    by_cases c : x < n
    · rw [if_pos c, if_pos c, List.getElem?_cons_succ, ih, isL]
      split <;> rfl
    · rw [if_neg c, if_neg c, List.getElem?_cons_zero]
      by_cases e : x = n
      · subst e; simp
      · rw [if_neg e, if_neg (by simp [e])]; rfl
theorem isL_delL (n : Nat) : ∀ L : List Nat, delL n L = if isL n L = true then L.take (posL n L) ++ L.drop (posL n L + 1) else L
  | [] => rfl
  | x :: xs => by
    have ih := isL_delL n xs
    rw [delL, isL, posL]
    by_cases c : x < n
    · rw [if_pos c, if_pos c, List.getElem?_cons_succ, ih, isL]
      split <;> rfl
    · rw [if_neg c, if_neg c, List.getElem?_cons_zero]
      by_cases e : x = n
      · subst e; simp
      · rw [if_neg e, if_neg (by simp [e])]
/-- Natural numbers as a row. -/
def nI (L : List Nat) : List Int := L.map (fun n : Nat => (n : Int))
theorem nI_len (L : List Nat) : (nI L).length = L.length := List.length_map _
theorem C_cell {w : World} {A : Option Addr} {L : List Nat} (h : Kd.C (Kd.int .u64) w A (nI L).length (nI L)) (k x : Nat) (hx : L[k]? = some x) : ∃ ad, A = some ad ∧ w.cell? (ad.add k) = some (.int .u64 (x : Int)) := by
  have hk := (List.getElem?_eq_some_iff.1 hx).1
  obtain ⟨ad, e, hc⟩ := (Kd.reads_of_C (enc := Value.int .u64) (d := (0 : Int)) (h1 := fun _ => rfl) h).2.2 (by rw [nI_len]; omega)
  refine ⟨ad, e, ?_⟩
  rw [hc k (by rw [nI_len]; exact hk), List.getD_eq_getElem?_getD, nI, List.getElem?_map, hx]
  rfl
set_option maxHeartbeats 8000000 in
set_option maxRecDepth 100000 in
theorem at_walk (A : Option Addr) (c : Nat) (L : List Nat) (n : Nat) (w : World) (hC : Kd.C (Kd.int .u64) w A (nI L).length (nI L)) (hl : L.length ≤ 9000) :
    Calls Tryd.prog 29 #[.slice A L.length c, .int .u64 (n : Int)] w fun e w' => e = .returned (.tuple #[.int .i64 (posL n L : Nat), .bool (isL n L)]) ∧ (w' = w ∨ w' = w.drew) := by
  obtain ⟨P, hP⟩ : ∃ P, P = posL n L := ⟨_, rfl⟩
  obtain ⟨q, hq⟩ : ∃ q, q = isL n L := ⟨_, rfl⟩
  rw [← hP, ← hq]
  have HH := Aside0.mk (And.intro hC (And.intro hP hq))
  clear hC hP hq
  go_enter Tryd.func29, Tryd.ntmps29
  go_wp2_with fail
  go_loopw [6] (fun v6 wx => ∃ (k : Nat), v6 = .int .i64 (k : Int) ∧ Aside0 (k ≤ P) ∧ wx = w) (fun v6 _ => Road.leftOf L.length v6)
  case atStart => exact ⟨0, rfl, ⟨Nat.zero_le _⟩, rfl⟩
  case round =>
    obtain ⟨k, rfl, HK, hwr⟩ := hrel
    subst hwr
    rcases Nat.lt_or_ge k L.length with hk | hk
    · have k1' := eq_true (show (k : Int) < (L.length : Int) by omega)
      have k2' := eq_true hk
      obtain ⟨x, hx⟩ : ∃ x, L[k]? = some x := ⟨_, List.getElem?_eq_getElem hk⟩
      obtain ⟨ad, had, cx⟩ := C_cell HH.out.1 k x hx
      subst had
      have hnx := posL_next n L k x (by have := HK.out; rw [HH.out.2.1] at this; exact this) hx
      rw [← HH.out.2.1] at hnx
      by_cases c : x < n
      · have d1 : decide ((n : Int) ≤ (x : Int)) = false := decide_eq_false (by omega)
        have d2 : decide (n ≤ x) = false := decide_eq_false (by omega)
        have HN := Aside0.mk (And.intro (hnx.1 c) hk)
        clear hnx c hx hk
        go_wp2_with fail
        go_roundw
        case rel =>
          refine ⟨k + 1, ?_, ⟨HN.out.1⟩, by first | rfl | trivial⟩
          rw [Road.w64 ((k : Int) + 1) ((k + 1 : Nat) : Int) (by omega) (by omega) (by have := HN.out.2; omega)]
        case measure =>
          rw [Road.w64 ((k : Int) + 1) ((k + 1 : Nat) : Int) (by omega) (by omega) (by have := HN.out.2; omega)]
          exact Road.leftOf_lt HN.out.2
      · have d1 : decide ((n : Int) ≤ (x : Int)) = true := decide_eq_true (by omega)
        have d2 : decide (n ≤ x) = true := decide_eq_true (by omega)
        have hPk : P = k := by have := HK.out; omega
        have hqx : q = ((x : Int) == (n : Int)) := by
          rw [HH.out.2.2, isL, ← HH.out.2.1, hPk, hx]
          by_cases e : x = n
          · subst e; simp
          · have e2 : ((x : Int) == (n : Int)) = false := beq_eq_false_iff_ne.2 (by omega)
            have e3 : (some x == some n) = false := by simp [e]
            rw [e2, e3]
        have HN := Aside0.mk (And.intro hPk (And.intro hk hqx))
        clear hnx c hx hk hPk hqx
        go_wp2_with fail
        refine start_ (n := 9) (S := fun w' => w'.cell? (ad.add k) = some (.int .u64 (x : Int))) (ds := []) #[false, false, false, false, false, false, false, false, false] (by kernel_rfl) rfl rfl cx (fun hHeld => ?_)
        refine pure_ (i := 0) (N := some 19) (v := ?_) (a' := ?_) #[true, false, false, false, false, false, false, false, false] rfl rfl (by kernel_rfl) (fun _ _ _ h => h) (Or.inl ⟨by rfl, ?_⟩) ?_ ?_
        rotate_left
        · intro w'
          go_simp
          with_reducible rfl
        rotate_left
        · simp only [Act.put, List.setIfInBounds_toArray, List.set_cons_zero, List.set_cons_succ, i64_w, i32_w]
          rfl
        refine pure_ (i := 1) (N := some 20) (v := ?_) (a' := ?_) #[true, true, false, false, false, false, false, false, false] rfl rfl (by kernel_rfl) (fun _ _ _ h => h) (Or.inl ⟨by rfl, ?_⟩) ?_ ?_
        rotate_left
        · intro w'
          go_simp
          with_reducible rfl
        rotate_left
        · simp only [Act.put, List.setIfInBounds_toArray, List.set_cons_zero, List.set_cons_succ, i64_w, i32_w]
          rfl
        refine pure_ (i := 2) (N := some 21) (v := ?_) (a' := ?_) #[true, true, true, false, false, false, false, false, false] rfl rfl (by kernel_rfl) (fun _ _ _ h => h) (Or.inl ⟨by rfl, ?_⟩) ?_ ?_
        rotate_left
        · intro w'
          go_simp
          with_reducible rfl
        rotate_left
        · simp only [Act.put, List.setIfInBounds_toArray, List.set_cons_zero, List.set_cons_succ, i64_w, i32_w]
          rfl
        refine pure_ (i := 3) (N := some 22) (v := ?_) (a' := ?_) #[true, true, true, true, false, false, false, false, false] rfl rfl (by kernel_rfl) (fun _ _ _ h => h) (Or.inl ⟨by rfl, ?_⟩) ?_ ?_
        rotate_left
        · intro w'
          go_simp
          with_reducible rfl
        rotate_left
        · simp only [Act.put, List.setIfInBounds_toArray, List.set_cons_zero, List.set_cons_succ, i64_w, i32_w]
          rfl
        refine take_ (i := 4) (N := some 23) (v := ?_) (a' := ?_) #[true, true, true, true, true, false, false, false, false] rfl rfl (by kernel_rfl) (fun _ _ _ h => h) (Or.inl ⟨by rfl, ?_⟩) hHeld ?_ ?_
        rotate_left
        · intro w' hS'
          go_simp
          with_reducible rfl
        rotate_left
        · simp only [Act.put, List.setIfInBounds_toArray, List.set_cons_zero, List.set_cons_succ, i64_w, i32_w]
          rfl
        refine pure_ (i := 5) (N := some 24) (v := ?_) (a' := ?_) #[true, true, true, true, true, true, false, false, false] rfl rfl (by kernel_rfl) (fun _ _ _ h => h) (Or.inl ⟨by rfl, ?_⟩) ?_ ?_
        rotate_left
        · intro w'
          go_simp
          with_reducible rfl
        rotate_left
        · simp only [Act.put, List.setIfInBounds_toArray, List.set_cons_zero, List.set_cons_succ, i64_w, i32_w]
          rfl
        refine pure_ (i := 6) (N := some 25) (v := ?_) (a' := ?_) #[true, true, true, true, true, true, true, false, false] rfl rfl (by kernel_rfl) (fun _ _ _ h => h) (Or.inl ⟨by rfl, ?_⟩) ?_ ?_
        rotate_left
        · intro w'
          go_simp
          with_reducible rfl
        rotate_left
        · simp only [Act.put, List.setIfInBounds_toArray, List.set_cons_zero, List.set_cons_succ, i64_w, i32_w]
          rfl
        refine pure_ (i := 7) (N := some 4) (v := ?_) (a' := ?_) #[true, true, true, true, true, true, true, true, false] rfl rfl (by kernel_rfl) (fun _ _ _ h => h) (Or.inl ⟨by rfl, ?_⟩) ?_ ?_
        rotate_left
        · intro w'
          go_simp
          with_reducible rfl
        rotate_left
        · simp only [Act.put, List.setIfInBounds_toArray, List.set_cons_zero, List.set_cons_succ, i64_w, i32_w]
          rfl
        refine pure_ (i := 8) (N := some 5) (v := ?_) (a' := ?_) #[true, true, true, true, true, true, true, true, true] rfl rfl (by kernel_rfl) (fun _ _ _ h => h) (Or.inl ⟨by rfl, ?_⟩) ?_ ?_
        rotate_left
        · intro w'
          go_simp
          with_reducible rfl
        rotate_left
        · simp only [Act.put, List.setIfInBounds_toArray, List.set_cons_zero, List.set_cons_succ, i64_w, i32_w]
          rfl
        refine done_ (by kernel_rfl) ?_
        go_wp2_with fail
        go_ret2
        exact ⟨by rw [HN.out.1, HN.out.2.2]; rfl, .inr rfl⟩
    · have hPl : P = L.length := by have := HK.out; have h2 := posL_le n L; rw [← HH.out.2.1] at h2; omega
      have hkl : k = L.length := by have := HK.out; omega
      subst hkl
      have hq0 : q = false := by rw [HH.out.2.2, isL, ← HH.out.2.1, hPl, List.getElem?_eq_none (Nat.le_refl _)]; rfl
      have HN := Aside0.mk (And.intro hPl hq0)
      clear hk hPl hq0
      go_wp2_with fail
      go_ret2
      exact ⟨by rw [HN.out.1, HN.out.2]; rfl, .inl rfl⟩
/-- What each act found. -/
def wasL : List Nat → List (Int × Int) → List Bool
  | _, [] => []
  | L, a :: l => isL a.2.toNat L :: wasL (stepL L a) l
theorem wasL_snoc : ∀ (l : List (Int × Int)) (L : List Nat) (a : Int × Int), wasL L (l ++ [a]) = wasL L l ++ [isL a.2.toNat (actsL L l)]
  | [], L, a => rfl
  | b :: l, L, a => by
    rw [List.cons_append, wasL, wasL, wasL_snoc l (stepL L b) a]
    rfl
theorem run_take25 (A : Option Addr) (n P c : Nat) (hP : P ≤ n) (hc : n ≤ c) (W : World) : (Instr.slice 25 (.slice A n c) none (some (.int .i64 (P : Int))) none).run Tryd.prog W = .ok (.slice A P c) W := by
  obtain ⟨i0, hi, hz0, hz1, hz2⟩ := info_parts sInfoU
  have := (print_take_of (P := Tryd.prog) (fun n : Nat => Value.int .u64 (n : Int)) 0 25 32 .i64 Tryd.underlying25 hi hz1 A c (List.replicate n 0) (P : Int) (by omega) (by rw [List.length_replicate]; omega) (by rw [List.length_replicate]; exact hc)).1 W
  simpa [List.length_take, Nat.min_eq_left hP] using this
theorem run_drop25 (A : Option Addr) (n P c : Nat) (hP : P ≤ n) (hc : n ≤ c) (W : World) : (Instr.slice 25 (.slice A n c) (some (.int .i64 (P : Int))) none none).run Tryd.prog W = .ok (.slice (if c = P then A else A.map (·.add P)) (n - P) (c - P)) W := by
  obtain ⟨i0, hi, hz0, hz1, hz2⟩ := info_parts sInfoU
  have hel : (Tryd.prog).elem 25 = 32 := by simp [Program.elem, Tryd.underlying25]
  have hu : (Tryd.prog).underlying 25 = some (.slice ((Tryd.prog).elem 25)) := by rw [hel]; exact Tryd.underlying25
  rw [run_slice_l W 25 A n c hu .i64 (P : Int) (by omega) (by omega), hel]
  simp [sizeOf, typeInfo, hi, hz1, sliced, Result.andThen]
/-- A row of ours stays where only new ones are made. -/
theorem C_pos {w : World} {A : Option Addr} {L : List Nat} (h : Kd.C (Kd.int .u64) w A (nI L).length (nI L)) (P c : Nat) (hP : P ≤ L.length) (hc : L.length ≤ c) :
    Kd.C (Kd.int .u64) w A P (nI (L.take P)) ∧ Kd.C (Kd.int .u64) w (if c = P then A else A.map (·.add P)) (L.length - P) (nI (L.drop P)) := by
  have h1 := Kd.C_take h (m := P) (by rw [nI_len]; exact hP)
  have h2 := Kd.C_drop h (m := P) (c := c) (by rw [nI_len]; exact hP) (by rw [nI_len]; exact hc)
  have e1 : (nI L).take P = nI (L.take P) := by rw [nI, nI, List.map_take]
  have e2 : (nI L).drop P = nI (L.drop P) := by rw [nI, nI, List.map_drop]
  rw [e1, nI_len, List.length_take, Nat.min_eq_left hP] at h1
  rw [e2, nI_len, List.length_drop] at h2
  rw [show (Kd.int .u64).sz = 1 from rfl, Nat.mul_one] at h2
  exact ⟨h1, h2⟩
set_option maxHeartbeats 16000000 in
set_option maxRecDepth 100000 in
theorem specSet_walk (A : Option Addr) (c : Nat) (acts : List (Int × Int)) (w : World) (hA : ActsAt w A acts) (hF : Formed acts) (hl : acts.length ≤ 9000) :
    Calls Tryd.prog 13 #[.slice A acts.length c] w fun e w' => ∃ v0 v1, e = .returned (.tuple #[v0, v1]) ∧ Kd.R (Kd.int .u64) 32 w' w.heap.size (fun _ => True) v0 (nI (actsL [] acts)) ∧ Kd.R Kd.bool 4 w' w.heap.size (fun _ => True) v1 (wasL [] acts) ∧ Below w.heap.size w w' := by
  have HH := Aside0.mk (And.intro hA (And.intro hF hl))
  clear hA hF
  go_enter Tryd.func13, Tryd.ntmps13
  go_wp2_with fail
  go_loopw [4, 5, 6] (fun v4 v5 v6 wx => ∃ (k : Nat), v6 = .int .i64 (k : Int) ∧ Aside0 (k ≤ acts.length) ∧ Aside0 (Kd.R (Kd.int .u64) 32 wx w.heap.size (fun k => w.heap.size ≤ k) v4 (nI (actsL [] (acts.take k))) ∧ (actsL [] (acts.take k)).length ≤ k) ∧ Aside0 (Kd.R Kd.bool 4 wx w.heap.size (fun k => w.heap.size ≤ k) v5 (wasL [] (acts.take k))) ∧ Aside0 (Below w.heap.size w wx)) (fun _ _ v6 _ => Road.leftOf acts.length v6)
  case atStart => exact ⟨0, rfl, ⟨Nat.zero_le _⟩, ⟨Kd.R_nil _ _ _ _ _, Nat.le_refl _⟩, ⟨Kd.R_nil _ _ _ _ _⟩, ⟨Below.refl _ _⟩⟩
  case round =>
    obtain ⟨k, rfl, HK, HR4, HR5, HB⟩ := hrel
    rcases Nat.lt_or_ge k acts.length with hk | hk
    · have k1' := eq_true (show (k : Int) < (acts.length : Int) by omega)
      have k2' := eq_true hk
      obtain ⟨ad, had, h1, h2⟩ := acts_below HB.out HH.out.1 k hk
      subst had
      obtain ⟨a, ha⟩ : ∃ a, a = acts.getD k (0, 0) := ⟨_, rfl⟩
      rw [← ha] at h1 h2
      have hmem : a ∈ acts := by rw [ha, List.getD_eq_getElem?_getD, List.getElem?_eq_getElem hk]; exact List.getElem_mem _
      obtain ⟨hop, h0, htop⟩ := HH.out.2.1 a hmem
      obtain ⟨s, hs⟩ : ∃ s : Nat, (s : Int) = a.2 := ⟨a.2.toNat, by omega⟩
      have hak : acts[k] = a := by rw [ha, List.getD_eq_getElem?_getD, List.getElem?_eq_getElem hk]; rfl
      have htk : actsL [] (acts.take (k + 1)) = stepL (actsL [] (acts.take k)) a := by
        rw [List.take_succ_eq_append_getElem hk, actsL, List.foldl_append, hak]
        rfl
      have htw : wasL [] (acts.take (k + 1)) = wasL [] (acts.take k) ++ [isL a.2.toNat (actsL [] (acts.take k))] := by
        rw [List.take_succ_eq_append_getElem hk, wasL_snoc, hak]
      have hlen := stepL_le (actsL [] (acts.take k)) a
      have hsa : stepL (actsL [] (acts.take k)) a = if a.1 = 0 then insL s (actsL [] (acts.take k)) else delL s (actsL [] (acts.take k)) := by
        unfold stepL
        rw [← hs]
        rfl
      rw [← hs] at h2 htw
      rw [hsa] at htk hlen
      replace htw : wasL [] (acts.take (k + 1)) = wasL [] (acts.take k) ++ [isL s (actsL [] (acts.take k))] := htw
      have hwl : (wasL [] (acts.take k)).length = k := by
        have : ∀ (l : List (Int × Int)) (L : List Nat), (wasL L l).length = l.length := by
          intro l
          induction l with
          | nil => intro L; rfl
          | cons b l ih => intro L; rw [wasL, List.length_cons, ih, List.length_cons]
        rw [this, List.length_take]; omega
      obtain ⟨L, hL⟩ : ∃ L, L = actsL [] (acts.take k) := ⟨_, rfl⟩
      rw [← hL] at HR4 htk htw hlen
      obtain ⟨A4, c4, e4, hc4, hC4⟩ := Kd.R_reads HR4.out.1
      rw [nI_len] at e4 hc4
      subst e4
      obtain ⟨q, hq⟩ : ∃ q, q = isL s L := ⟨_, rfl⟩
      obtain ⟨P, hP⟩ : ∃ P, P = posL s L := ⟨_, rfl⟩
      have hPl := posL_le s L
      rw [← hP] at hPl
      rw [← hq] at htw
      have hat := at_walk A4 c4 L s wr hC4 (by have := HR4.out.2; omega)
      rw [← hP, ← hq] at hat
      have HAT := Aside0.mk hat
      have HST := Aside0.mk (And.intro hl (And.intro hk hPl))
      have HWL := Aside0.mk hwl
      have HLN := Aside0.mk (show L.length ≤ 9000 by have := HR4.out.2; omega)
      have HPQ := Aside0.mk (And.intro hq hP)
      have HC4 := Aside0.mk (And.intro hC4 hc4)
      have HCL := Aside0.mk (And.intro h1 h2)
      clear ha hmem h0 htop hs hak hsa hwl hL hc4 hC4 hq hP hPl hat hk
      -- ahead of the cases: to the call
      rcases hop with hop | hop
      · rw [hop] at h1
        rw [if_pos hop] at htk hlen
        have HTK := Aside0.mk (And.intro htk htw)
        have HLE := Aside0.mk hlen
        have HOP := Aside0.mk hop
        clear htk htw hlen hop
        go_wp2_with fail
        refine HAT.out.mono ?_
        rintro e w2 ⟨rfl, hd⟩
        have hb2 : Below wr.heap.size wr w2 := by
          rcases hd with rfl | rfl
          · exact Below.refl _ _
          · exact below_drew (Below.refl _ _)
        have HB2 := Aside0.mk (below_step HB.out hb2)
        have g1 := cell_below hb2 h1
        have g2 := cell_below hb2 h2
        have HCS := Aside0.mk g2
        have HR42 := Aside0.mk (Kd.R_below HR4.out.1 hb2)
        have HR52 := Aside0.mk (Kd.R_below HR5.out hb2)
        have hC42 := Kd.C_below HC4.out.1 hb2
        have HCP := C_pos hC42 P c4 HST.out.2.2 HC4.out.2
        have HCT := Aside0.mk HCP.1
        have HCD := Aside0.mk HCP.2
        clear HCP
        have sl1 := run_take25 A4 L.length P c4 HST.out.2.2 HC4.out.2
        have HDD := Aside0.mk hb2
        clear hd hb2 h1 h2 hC42
        cases q with
        | true =>
          have HX4 : Aside0 (Kd.R (Kd.int .u64) 32 w2 w.heap.size (fun k => w.heap.size ≤ k) (.slice A4 L.length c4) (nI (insL s L))) := ⟨by rw [show insL s L = L by rw [isL_insL, if_pos HPQ.out.1.symm]]; exact HR42.out⟩
          clear sl1
          have HX5 := Aside0.mk (Kd.R_below HR52.out (Below.refl w2.heap.size w2))
          have HXB := Aside0.mk (HB2.out.trans (Below.mono (Below.refl w2.heap.size w2) HB2.out.size))
          have HXS := Aside0.mk (show w.heap.size ≤ w2.heap.size from HXB.out.size)
          go_wp2_with (first | ((with_reducible refine gate_builtin (b := .append) (xs := #[.tmp 70, .tmp 72]) rfl ?_); at_builtin; refine Kd.R_append Kd.bool (w0 := w2) w.heap.size rfl (.tmp 70) (.tmp 72) 26 4 (.bool false) 1 rfl Tryd.underlying26 sInfoB rfl (by decide) (by decide) _ (wasL [] (acts.take k)) true [.bool true] (fun k => w.heap.size ≤ k) (fun _ => False) rfl rfl (by exact rfl) (fun _ hk => hk.elim) (fun k hk => Nat.le_trans HXS.out hk) HX5.out (Below.refl _ _) HXS.out (by have := HWL.out; have := HST.out; omega) ?_; intro v1 w1 ho hb1 hg hat; have hr4 := Kd.R_over' HX4.out (Kd.R_typed HX5.out) (by intro z hz; rcases List.mem_cons.1 hz with rfl | h; decide; exact absurd h (by simp [Kd.int, Kd.scalar])) hg; have H1 := Aside0.mk (And.intro ho (And.intro hb1 hr4)); clear ho hb1 hg hat hr4))
          go_roundw
          case rel =>
            refine ⟨k + 1, ?_, ⟨HST.out.2.1⟩, ⟨by rw [HTK.out.1]; exact H1.out.2.2, by rw [HTK.out.1]; exact (by have := HLE.out; have := HR4.out.2; omega)⟩, ⟨by rw [HTK.out.2]; exact H1.out.1⟩, ⟨HXB.out.trans H1.out.2.1⟩⟩
            rw [Road.w64 ((k : Int) + 1) ((k + 1 : Nat) : Int) (by omega) (by omega) (by have := HST.out; omega)]
          case measure =>
            rw [Road.w64 ((k : Int) + 1) ((k + 1 : Nat) : Int) (by omega) (by omega) (by have := HST.out; omega)]
            exact Road.leftOf_lt HST.out.2.1
        | false =>
          have HINS := Aside0.mk (show nI (insL s L) = [] ++ nI (L.take P) ++ [(s : Int)] ++ nI (L.drop P) by rw [isL_insL, if_neg (by rw [← HPQ.out.1]; simp), ← HPQ.out.2]; simp [nI])
          obtain ⟨A5, hA5⟩ : ∃ A5, A5 = (if c4 = P then A4 else A4.map (·.add P)) := ⟨_, rfl⟩
          have sl2 := run_drop25 A4 L.length P c4 HST.out.2.2 HC4.out.2
          rw [← hA5] at sl2 HCD
          clear hA5
          go_wp2_with fail
          refine start_ (n := 17) (S := fun w' => w'.cell? ⟨(ad.add (k * 2)).block, (ad.add (k * 2)).off + 1, none⟩ = some (.int .u64 (s : Int))) (ds := []) #[false, false, false, false, false, false, false, false, false, false, false, false, false, false, false, false, false] (by kernel_rfl) rfl rfl HCS.out (fun hHeld => ?_)
          refine pure_ (i := 1) (N := some 36) (v := ?_) (a' := ?_) #[false, true, false, false, false, false, false, false, false, false, false, false, false, false, false, false, false] rfl rfl (by kernel_rfl) (fun _ _ _ h => h) (Or.inl ⟨by rfl, ?_⟩) ?_ ?_
          rotate_left
          · intro w'
            go_simp
            with_reducible rfl
          rotate_left
          · simp only [Act.put, List.setIfInBounds_toArray, List.set_cons_zero, List.set_cons_succ, i64_w, i32_w]
            rfl
          refine pure_ (i := 2) (N := some 37) (v := ?_) (a' := ?_) #[false, true, true, false, false, false, false, false, false, false, false, false, false, false, false, false, false] rfl rfl (by kernel_rfl) (fun _ _ _ h => h) (Or.inl ⟨by rfl, ?_⟩) ?_ ?_
          rotate_left
          · intro w'
            go_simp
            with_reducible rfl
          rotate_left
          · simp only [Act.put, List.setIfInBounds_toArray, List.set_cons_zero, List.set_cons_succ, i64_w, i32_w]
            rfl
          refine pure_ (i := 3) (N := some 38) (v := ?_) (a' := ?_) #[false, true, true, true, false, false, false, false, false, false, false, false, false, false, false, false, false] rfl rfl (by kernel_rfl) (fun _ _ _ h => h) (Or.inl ⟨by rfl, ?_⟩) ?_ ?_
          rotate_left
          · intro w'
            go_simp
            with_reducible rfl
          rotate_left
          · simp only [Act.put, List.setIfInBounds_toArray, List.set_cons_zero, List.set_cons_succ, i64_w, i32_w]
            rfl
          refine pure_ (i := 5) (N := some 40) (v := ?_) (a' := ?_) #[false, true, true, true, false, true, false, false, false, false, false, false, false, false, false, false, false] rfl rfl (by kernel_rfl) (fun _ _ _ h => h) (Or.inl ⟨by rfl, ?_⟩) ?_ ?_
          rotate_left
          · intro w'
            go_simp
            with_reducible rfl
          rotate_left
          · simp only [Act.put, List.setIfInBounds_toArray, List.set_cons_zero, List.set_cons_succ, i64_w, i32_w]
            rfl
          refine pure_ (i := 6) (N := some 41) (v := ?_) (a' := ?_) #[false, true, true, true, false, true, true, false, false, false, false, false, false, false, false, false, false] rfl rfl (by kernel_rfl) (fun _ _ _ h => h) (Or.inl ⟨by rfl, ?_⟩) ?_ ?_
          rotate_left
          · intro w'
            go_simp
            with_reducible rfl
          rotate_left
          · simp only [Act.put, List.setIfInBounds_toArray, List.set_cons_zero, List.set_cons_succ, i64_w, i32_w]
            rfl
          refine pure_ (i := 7) (N := some 42) (v := ?_) (a' := ?_) #[false, true, true, true, false, true, true, true, false, false, false, false, false, false, false, false, false] rfl rfl (by kernel_rfl) (fun _ _ _ h => h) (Or.inl ⟨by rfl, ?_⟩) ?_ ?_
          rotate_left
          · intro w'
            go_simp
            with_reducible rfl
          rotate_left
          · simp only [Act.put, List.setIfInBounds_toArray, List.set_cons_zero, List.set_cons_succ, i64_w, i32_w]
            rfl
          refine pure_ (i := 8) (N := some 43) (v := ?_) (a' := ?_) #[false, true, true, true, false, true, true, true, true, false, false, false, false, false, false, false, false] rfl rfl (by kernel_rfl) (fun _ _ _ h => h) (Or.inl ⟨by rfl, ?_⟩) ?_ ?_
          rotate_left
          · intro w'
            go_simp
            with_reducible rfl
          rotate_left
          · simp only [Act.put, List.setIfInBounds_toArray, List.set_cons_zero, List.set_cons_succ, i64_w, i32_w]
            rfl
          refine take_ (i := 9) (N := some 44) (v := ?_) (a' := ?_) #[false, true, true, true, false, true, true, true, true, true, false, false, false, false, false, false, false] rfl rfl (by kernel_rfl) (fun _ _ _ h => h) (Or.inl ⟨by rfl, ?_⟩) hHeld ?_ ?_
          rotate_left
          · intro w' hS'
            go_simp
            with_reducible rfl
          rotate_left
          · simp only [Act.put, List.setIfInBounds_toArray, List.set_cons_zero, List.set_cons_succ, i64_w, i32_w]
            rfl
          refine pure_ (i := 12) (N := some 47) (v := ?_) (a' := ?_) #[false, true, true, true, false, true, true, true, true, true, false, false, true, false, false, false, false] rfl rfl (by kernel_rfl) (fun _ _ _ h => h) (Or.inl ⟨by rfl, ?_⟩) ?_ ?_
          rotate_left
          · intro w'
            go_simp
            with_reducible rfl
          rotate_left
          · simp only [Act.put, List.setIfInBounds_toArray, List.set_cons_zero, List.set_cons_succ, i64_w, i32_w]
            rfl
          refine pure_ (i := 13) (N := some 48) (v := ?_) (a' := ?_) #[false, true, true, true, false, true, true, true, true, true, false, false, true, true, false, false, false] rfl rfl (by kernel_rfl) (fun _ _ _ h => h) (Or.inl ⟨by rfl, ?_⟩) ?_ ?_
          rotate_left
          · intro w'
            go_simp
            with_reducible rfl
          rotate_left
          · simp only [Act.put, List.setIfInBounds_toArray, List.set_cons_zero, List.set_cons_succ, i64_w, i32_w]
            rfl
          refine pure_ (i := 14) (N := some 49) (v := ?_) (a' := ?_) #[false, true, true, true, false, true, true, true, true, true, false, false, true, true, true, false, false] rfl rfl (by kernel_rfl) (fun _ _ _ h => h) (Or.inl ⟨by rfl, ?_⟩) ?_ ?_
          rotate_left
          · intro w'
            go_simp
            with_reducible rfl
          rotate_left
          · simp only [Act.put, List.setIfInBounds_toArray, List.set_cons_zero, List.set_cons_succ, i64_w, i32_w]
            rfl
          obtain ⟨yD, hyD⟩ : ∃ yD, yD = w2.drew := ⟨_, rfl⟩
          have hz0 : w2.heap.size ≤ yD.heap.size := by rw [hyD]; exact Nat.le_refl _
          have hT_yD : Below w2.heap.size w2 yD := by rw [hyD]; exact below_drew (Below.refl _ w2)
          have hS_yD := cell_below hT_yD HCS.out
          rw [← hyD] at hHeld ⊢
          clear hyD
          refine two_ (i := 0) (j := 10) (Ni := some 35) (Nj := some 45) #[true, true, true, true, false, true, true, true, true, true, false, false, true, true, true, false, false] #[false, true, true, true, false, true, true, true, true, true, true, false, true, true, true, false, false] rfl rfl rfl rfl (by kernel_rfl) (by decide) (by decide) (fun K hK => ?_) (fun K hK => ?_)
          · refine Kd.R_lit_step (Kd.int .u64) (w0 := yD) yD.heap.size 32 ?hg (N := 35) ?hd (xs := ([] : List Int)) (inner := []) (ok := fun _ => True) (okp := fun _ => True) ?hr ?hp (fun _ hk => hk) trivial (Below.refl _ _) (Nat.le_refl _) (by simp) ?_; (case hd => rfl); (case hg => rfl); (case hr => first | (go_simp; done) | (go_simp; rfl)); (case hp => exact (Reps.none _ _))
            intro v35 y1 hR_35 hb_y1 _ _
            have hL_35 := Kd.R_lt hR_35
            have hz_y1 := hb_y1.size
            have hT_y1 : Below w2.heap.size w2 y1 := hT_yD.trans (hb_y1.mono (by have z0 := hz0; have := hz_y1; omega))
            have hS_y1 := cell_below hT_y1 HCS.out
            refine hK.out _ _ hS_y1 (fun hHeld => ?_)
            clear hK K
            refine norm_ (a' := ?_) ?_ ?_
            rotate_left
            · show Act.put _ (some 35) _ = _
              simp only [Act.put, List.setIfInBounds_toArray, List.set_cons_zero, List.set_cons_succ, i64_w, i32_w]
              rfl
            refine two_ (i := 4) (j := 10) (Ni := some 39) (Nj := some 45) #[true, true, true, true, true, true, true, true, true, true, false, false, true, true, true, false, false] #[true, true, true, true, false, true, true, true, true, true, true, false, true, true, true, false, false] rfl rfl rfl rfl (by kernel_rfl) (by decide) (by decide) (fun K hK => ?_) (fun K hK => ?_)
            · have hC_39 := Kd.C_below HCT.out hT_y1
              refine Kd.R_append_rows_step (Kd.int .u64) (w0 := y1) yD.heap.size (by rfl) (.tmp 35) (.tmp 38) 25 32 (.int .u64 0) 8 rfl Tryd.underlying25 sInfoU rfl (by decide) (by omega) v35 ([]) (nI (L.take P)) _ _ _ (fun _ => True) (fun _ => False) rfl rfl hR_35 hC_39 (fun _ _ h => h) (fun _ h => h.elim) (fun _ _ => trivial) (Below.refl _ _) (by have z0 := hz0; have := hz_y1; omega) (by simp only [List.length_append, List.length_nil, List.length_cons, nI_len, List.length_take, List.length_drop]; have := HLN.out; have := HST.out; omega) ?_
              intro v39 y2 hR_39 hb_y2 hg_y2 _
              have hL_39 := Kd.R_lt hR_39
              clear hR_35
              have hz_y2 := hb_y2.size
              have hT_y2 : Below w2.heap.size w2 y2 := hT_y1.trans (hb_y2.mono (by have z0 := hz0; have := hz_y1; have := hz_y2; omega))
              have hS_y2 := cell_below hT_y2 HCS.out
              refine hK.out _ _ hS_y2 (fun hHeld => ?_)
              clear hK K
              refine norm_ (a' := ?_) ?_ ?_
              rotate_left
              · show Act.put _ (some 39) _ = _
                simp only [Act.put, List.setIfInBounds_toArray, List.set_cons_zero, List.set_cons_succ, i64_w, i32_w]
                rfl
              refine one_ (i := 10) (N := some 45) #[true, true, true, true, true, true, true, true, true, true, true, false, true, true, true, false, false] rfl rfl (by kernel_rfl) (by decide) (fun K hK => ?_)
              refine Kd.R_lit_step (Kd.int .u64) (w0 := y2) y2.heap.size 32 ?hg (N := 45) ?hd (xs := [(s : Int)]) (inner := [.int .u64 (s : Int)]) (ok := fun _ => True) (okp := fun _ => True) ?hr ?hp (fun _ hk => hk) trivial (Below.refl _ _) (Nat.le_refl _) (by simp) ?_; (case hd => rfl); (case hg => rfl); (case hr => first | (go_simp; done) | (go_simp; rfl)); (case hp => exact Kd.reps_scalar (enc := Value.int .u64) [(s : Int)])
              intro v45 y3 hR_45 hb_y3 _ _
              replace hR_39 := Kd.R_below hR_39 hb_y3
              have hL_45 := Kd.R_lt hR_45
              have hz_y3 := hb_y3.size
              have hT_y3 : Below w2.heap.size w2 y3 := hT_y2.trans (hb_y3.mono (by have z0 := hz0; have := hz_y1; have := hz_y2; have := hz_y3; omega))
              have hS_y3 := cell_below hT_y3 HCS.out
              refine hK.out _ _ hS_y3 (fun hHeld => ?_)
              clear hK K
              refine norm_ (a' := ?_) ?_ ?_
              rotate_left
              · show Act.put _ (some 45) _ = _
                simp only [Act.put, List.setIfInBounds_toArray, List.set_cons_zero, List.set_cons_succ, i64_w, i32_w]
                rfl
              refine one_ (i := 11) (N := some 46) #[true, true, true, true, true, true, true, true, true, true, true, true, true, true, true, false, false] rfl rfl (by kernel_rfl) (by decide) (fun K hK => ?_)
              obtain ⟨A45, c45, e45, hc45, hC45⟩ := Kd.R_reads hR_45
              subst e45
              refine Kd.R_append_rows_step (Kd.int .u64) (w0 := y3) yD.heap.size (by rfl) (.tmp 39) (.tmp 45) 25 32 (.int .u64 0) 8 rfl Tryd.underlying25 sInfoU rfl (by decide) (by omega) v39 ([] ++ nI (L.take P)) ([(s : Int)]) _ _ _ (fun _ => True) (fun _ => False) rfl rfl hR_39 hC45 (fun _ _ h => h) (fun _ h => h.elim) (fun _ _ => trivial) (Below.refl _ _) (by have z0 := hz0; have := hz_y1; have := hz_y2; have := hz_y3; omega) (by simp only [List.length_append, List.length_nil, List.length_cons, nI_len, List.length_take, List.length_drop]; have := HLN.out; have := HST.out; omega) ?_
              intro v46 y4 hR_46 hb_y4 hg_y4 _
              clear hR_45 hC45 hc45
              have hL_46 := Kd.R_lt hR_46
              clear hR_39
              have hz_y4 := hb_y4.size
              have hT_y4 : Below w2.heap.size w2 y4 := hT_y3.trans (hb_y4.mono (by have z0 := hz0; have := hz_y1; have := hz_y2; have := hz_y3; have := hz_y4; omega))
              have hS_y4 := cell_below hT_y4 HCS.out
              refine hK.out _ _ hS_y4 (fun hHeld => ?_)
              clear hK K
              refine norm_ (a' := ?_) ?_ ?_
              rotate_left
              · show Act.put _ (some 46) _ = _
                simp only [Act.put, List.setIfInBounds_toArray, List.set_cons_zero, List.set_cons_succ, i64_w, i32_w]
                rfl
              refine one_ (i := 15) (N := some 50) #[true, true, true, true, true, true, true, true, true, true, true, true, true, true, true, true, false] rfl rfl (by kernel_rfl) (by decide) (fun K hK => ?_)
              have hC_50 := Kd.C_below HCD.out hT_y4
              refine Kd.R_append_rows_step (Kd.int .u64) (w0 := y4) yD.heap.size (by rfl) (.tmp 46) (.tmp 49) 25 32 (.int .u64 0) 8 rfl Tryd.underlying25 sInfoU rfl (by decide) (by omega) v46 ([] ++ nI (L.take P) ++ [(s : Int)]) (nI (L.drop P)) _ _ _ (fun _ => True) (fun _ => False) rfl rfl hR_46 hC_50 (fun _ _ h => h) (fun _ h => h.elim) (fun _ _ => trivial) (Below.refl _ _) (by have z0 := hz0; have := hz_y1; have := hz_y2; have := hz_y3; have := hz_y4; omega) (by simp only [List.length_append, List.length_nil, List.length_cons, nI_len, List.length_take, List.length_drop]; have := HLN.out; have := HST.out; omega) ?_
              intro v50 y5 hR_50 hb_y5 hg_y5 _
              have hL_50 := Kd.R_lt hR_50
              clear hR_46
              have hz_y5 := hb_y5.size
              have hT_y5 : Below w2.heap.size w2 y5 := hT_y4.trans (hb_y5.mono (by have z0 := hz0; have := hz_y1; have := hz_y2; have := hz_y3; have := hz_y4; have := hz_y5; omega))
              have hS_y5 := cell_below hT_y5 HCS.out
              refine hK.out _ _ hS_y5 (fun hHeld => ?_)
              clear hK K
              refine norm_ (a' := ?_) ?_ ?_
              rotate_left
              · show Act.put _ (some 50) _ = _
                simp only [Act.put, List.setIfInBounds_toArray, List.set_cons_zero, List.set_cons_succ, i64_w, i32_w]
                rfl
              refine pure_ (i := 16) (N := some 4) (v := ?_) (a' := ?_) #[true, true, true, true, true, true, true, true, true, true, true, true, true, true, true, true, true] rfl rfl (by kernel_rfl) (fun _ _ _ h => h) (Or.inl ⟨by rfl, ?_⟩) ?_ ?_
              rotate_left
              · intro w'
                go_simp
                with_reducible rfl
              rotate_left
              · simp only [Act.put, List.setIfInBounds_toArray, List.set_cons_zero, List.set_cons_succ, i64_w, i32_w]
                rfl
              refine done_ (by kernel_rfl) ?_
              have HX4 : Aside0 (Kd.R (Kd.int .u64) 32 y5 w.heap.size (fun k => w.heap.size ≤ k) v50 (nI (insL s L))) := ⟨by rw [HINS.out]; exact Kd.R_mono (Kd.R_bound (Kd.R_lower hR_50 (by have := HB2.out.size; have z0 := hz0; have := hz_y1; have := hz_y2; have := hz_y3; have := hz_y4; have := hz_y5; omega))) (fun k hk => hk.2.1)⟩
              have HTX := Aside0.mk hT_y5
              have g1c := cell_below HTX.out g1
              clear hR_50 hL_50 hHeld sl1 sl2
              have HX5 := Aside0.mk (Kd.R_below HR52.out HTX.out)
              have HXB := Aside0.mk (HB2.out.trans (Below.mono HTX.out HB2.out.size))
              have HXS := Aside0.mk (show w.heap.size ≤ y5.heap.size from HXB.out.size)
              go_wp2_with (first | ((with_reducible refine gate_builtin (b := .append) (xs := #[.tmp 70, .tmp 72]) rfl ?_); at_builtin; refine Kd.R_append Kd.bool (w0 := y5) w.heap.size rfl (.tmp 70) (.tmp 72) 26 4 (.bool false) 1 rfl Tryd.underlying26 sInfoB rfl (by decide) (by decide) _ (wasL [] (acts.take k)) false [.bool false] (fun k => w.heap.size ≤ k) (fun _ => False) rfl rfl (by exact rfl) (fun _ hk => hk.elim) (fun k hk => Nat.le_trans HXS.out hk) HX5.out (Below.refl _ _) HXS.out (by have := HWL.out; have := HST.out; omega) ?_; intro v1 w1 ho hb1 hg hat; have hr4 := Kd.R_over' HX4.out (Kd.R_typed HX5.out) (by intro z hz; rcases List.mem_cons.1 hz with rfl | h; decide; exact absurd h (by simp [Kd.int, Kd.scalar])) hg; have H1 := Aside0.mk (And.intro ho (And.intro hb1 hr4)); clear ho hb1 hg hat hr4))
              go_roundw
              case rel =>
                refine ⟨k + 1, ?_, ⟨HST.out.2.1⟩, ⟨by rw [HTK.out.1]; exact H1.out.2.2, by rw [HTK.out.1]; exact (by have := HLE.out; have := HR4.out.2; omega)⟩, ⟨by rw [HTK.out.2]; exact H1.out.1⟩, ⟨HXB.out.trans H1.out.2.1⟩⟩
                rw [Road.w64 ((k : Int) + 1) ((k + 1 : Nat) : Int) (by omega) (by omega) (by have := HST.out; omega)]
              case measure =>
                rw [Road.w64 ((k : Int) + 1) ((k + 1 : Nat) : Int) (by omega) (by omega) (by have := HST.out; omega)]
                exact Road.leftOf_lt HST.out.2.1
            · refine Kd.R_lit_step (Kd.int .u64) (w0 := y1) y1.heap.size 32 ?hg (N := 45) ?hd (xs := [(s : Int)]) (inner := [.int .u64 (s : Int)]) (ok := fun _ => True) (okp := fun _ => True) ?hr ?hp (fun _ hk => hk) trivial (Below.refl _ _) (Nat.le_refl _) (by simp) ?_; (case hd => rfl); (case hg => rfl); (case hr => first | (go_simp; done) | (go_simp; rfl)); (case hp => exact Kd.reps_scalar (enc := Value.int .u64) [(s : Int)])
              intro v45 y2 hR_45 hb_y2 _ _
              replace hR_35 := Kd.R_below hR_35 hb_y2
              have hL_45 := Kd.R_lt hR_45
              have hz_y2 := hb_y2.size
              have hT_y2 : Below w2.heap.size w2 y2 := hT_y1.trans (hb_y2.mono (by have z0 := hz0; have := hz_y1; have := hz_y2; omega))
              have hS_y2 := cell_below hT_y2 HCS.out
              refine hK.out _ _ hS_y2 (fun hHeld => ?_)
              clear hK K
              refine norm_ (a' := ?_) ?_ ?_
              rotate_left
              · show Act.put _ (some 45) _ = _
                simp only [Act.put, List.setIfInBounds_toArray, List.set_cons_zero, List.set_cons_succ, i64_w, i32_w]
                rfl
              refine one_ (i := 4) (N := some 39) #[true, true, true, true, true, true, true, true, true, true, true, false, true, true, true, false, false] rfl rfl (by kernel_rfl) (by decide) (fun K hK => ?_)
              have hC_39 := Kd.C_below HCT.out hT_y2
              refine Kd.R_append_rows_step (Kd.int .u64) (w0 := y2) yD.heap.size (by rfl) (.tmp 35) (.tmp 38) 25 32 (.int .u64 0) 8 rfl Tryd.underlying25 sInfoU rfl (by decide) (by omega) v35 ([]) (nI (L.take P)) _ _ _ (fun _ => True) (fun _ => False) rfl rfl hR_35 hC_39 (fun _ _ h => h) (fun _ h => h.elim) (fun _ _ => trivial) (Below.refl _ _) (by have z0 := hz0; have := hz_y1; have := hz_y2; omega) (by simp only [List.length_append, List.length_nil, List.length_cons, nI_len, List.length_take, List.length_drop]; have := HLN.out; have := HST.out; omega) ?_
              intro v39 y3 hR_39 hb_y3 hg_y3 _
              replace hR_45 := Kd.R_grown2 hR_45 rfl hg_y3 (fun k hk e_ => absurd (hL_35 k hk) (by have := Kd.R_base hR_45 k e_.symm; have z0 := hz0; have := hz_y1; have := hz_y2; omega))
              have hL_39 := Kd.R_lt hR_39
              clear hR_35
              have hz_y3 := hb_y3.size
              have hT_y3 : Below w2.heap.size w2 y3 := hT_y2.trans (hb_y3.mono (by have z0 := hz0; have := hz_y1; have := hz_y2; have := hz_y3; omega))
              have hS_y3 := cell_below hT_y3 HCS.out
              refine hK.out _ _ hS_y3 (fun hHeld => ?_)
              clear hK K
              refine norm_ (a' := ?_) ?_ ?_
              rotate_left
              · show Act.put _ (some 39) _ = _
                simp only [Act.put, List.setIfInBounds_toArray, List.set_cons_zero, List.set_cons_succ, i64_w, i32_w]
                rfl
              refine one_ (i := 11) (N := some 46) #[true, true, true, true, true, true, true, true, true, true, true, true, true, true, true, false, false] rfl rfl (by kernel_rfl) (by decide) (fun K hK => ?_)
              obtain ⟨A45, c45, e45, hc45, hC45⟩ := Kd.R_reads hR_45
              subst e45
              refine Kd.R_append_rows_step (Kd.int .u64) (w0 := y3) yD.heap.size (by rfl) (.tmp 39) (.tmp 45) 25 32 (.int .u64 0) 8 rfl Tryd.underlying25 sInfoU rfl (by decide) (by omega) v39 ([] ++ nI (L.take P)) ([(s : Int)]) _ _ _ (fun _ => True) (fun _ => False) rfl rfl hR_39 hC45 (fun _ _ h => h) (fun _ h => h.elim) (fun _ _ => trivial) (Below.refl _ _) (by have z0 := hz0; have := hz_y1; have := hz_y2; have := hz_y3; omega) (by simp only [List.length_append, List.length_nil, List.length_cons, nI_len, List.length_take, List.length_drop]; have := HLN.out; have := HST.out; omega) ?_
              intro v46 y4 hR_46 hb_y4 hg_y4 _
              clear hR_45 hC45 hc45
              have hL_46 := Kd.R_lt hR_46
              clear hR_39
              have hz_y4 := hb_y4.size
              have hT_y4 : Below w2.heap.size w2 y4 := hT_y3.trans (hb_y4.mono (by have z0 := hz0; have := hz_y1; have := hz_y2; have := hz_y3; have := hz_y4; omega))
              have hS_y4 := cell_below hT_y4 HCS.out
              refine hK.out _ _ hS_y4 (fun hHeld => ?_)
              clear hK K
              refine norm_ (a' := ?_) ?_ ?_
              rotate_left
              · show Act.put _ (some 46) _ = _
                simp only [Act.put, List.setIfInBounds_toArray, List.set_cons_zero, List.set_cons_succ, i64_w, i32_w]
                rfl
              refine one_ (i := 15) (N := some 50) #[true, true, true, true, true, true, true, true, true, true, true, true, true, true, true, true, false] rfl rfl (by kernel_rfl) (by decide) (fun K hK => ?_)
              have hC_50 := Kd.C_below HCD.out hT_y4
              refine Kd.R_append_rows_step (Kd.int .u64) (w0 := y4) yD.heap.size (by rfl) (.tmp 46) (.tmp 49) 25 32 (.int .u64 0) 8 rfl Tryd.underlying25 sInfoU rfl (by decide) (by omega) v46 ([] ++ nI (L.take P) ++ [(s : Int)]) (nI (L.drop P)) _ _ _ (fun _ => True) (fun _ => False) rfl rfl hR_46 hC_50 (fun _ _ h => h) (fun _ h => h.elim) (fun _ _ => trivial) (Below.refl _ _) (by have z0 := hz0; have := hz_y1; have := hz_y2; have := hz_y3; have := hz_y4; omega) (by simp only [List.length_append, List.length_nil, List.length_cons, nI_len, List.length_take, List.length_drop]; have := HLN.out; have := HST.out; omega) ?_
              intro v50 y5 hR_50 hb_y5 hg_y5 _
              have hL_50 := Kd.R_lt hR_50
              clear hR_46
              have hz_y5 := hb_y5.size
              have hT_y5 : Below w2.heap.size w2 y5 := hT_y4.trans (hb_y5.mono (by have z0 := hz0; have := hz_y1; have := hz_y2; have := hz_y3; have := hz_y4; have := hz_y5; omega))
              have hS_y5 := cell_below hT_y5 HCS.out
              refine hK.out _ _ hS_y5 (fun hHeld => ?_)
              clear hK K
              refine norm_ (a' := ?_) ?_ ?_
              rotate_left
              · show Act.put _ (some 50) _ = _
                simp only [Act.put, List.setIfInBounds_toArray, List.set_cons_zero, List.set_cons_succ, i64_w, i32_w]
                rfl
              refine pure_ (i := 16) (N := some 4) (v := ?_) (a' := ?_) #[true, true, true, true, true, true, true, true, true, true, true, true, true, true, true, true, true] rfl rfl (by kernel_rfl) (fun _ _ _ h => h) (Or.inl ⟨by rfl, ?_⟩) ?_ ?_
              rotate_left
              · intro w'
                go_simp
                with_reducible rfl
              rotate_left
              · simp only [Act.put, List.setIfInBounds_toArray, List.set_cons_zero, List.set_cons_succ, i64_w, i32_w]
                rfl
              refine done_ (by kernel_rfl) ?_
              have HX4 : Aside0 (Kd.R (Kd.int .u64) 32 y5 w.heap.size (fun k => w.heap.size ≤ k) v50 (nI (insL s L))) := ⟨by rw [HINS.out]; exact Kd.R_mono (Kd.R_bound (Kd.R_lower hR_50 (by have := HB2.out.size; have z0 := hz0; have := hz_y1; have := hz_y2; have := hz_y3; have := hz_y4; have := hz_y5; omega))) (fun k hk => hk.2.1)⟩
              have HTX := Aside0.mk hT_y5
              have g1c := cell_below HTX.out g1
              clear hR_50 hL_50 hHeld sl1 sl2
              have HX5 := Aside0.mk (Kd.R_below HR52.out HTX.out)
              have HXB := Aside0.mk (HB2.out.trans (Below.mono HTX.out HB2.out.size))
              have HXS := Aside0.mk (show w.heap.size ≤ y5.heap.size from HXB.out.size)
              go_wp2_with (first | ((with_reducible refine gate_builtin (b := .append) (xs := #[.tmp 70, .tmp 72]) rfl ?_); at_builtin; refine Kd.R_append Kd.bool (w0 := y5) w.heap.size rfl (.tmp 70) (.tmp 72) 26 4 (.bool false) 1 rfl Tryd.underlying26 sInfoB rfl (by decide) (by decide) _ (wasL [] (acts.take k)) false [.bool false] (fun k => w.heap.size ≤ k) (fun _ => False) rfl rfl (by exact rfl) (fun _ hk => hk.elim) (fun k hk => Nat.le_trans HXS.out hk) HX5.out (Below.refl _ _) HXS.out (by have := HWL.out; have := HST.out; omega) ?_; intro v1 w1 ho hb1 hg hat; have hr4 := Kd.R_over' HX4.out (Kd.R_typed HX5.out) (by intro z hz; rcases List.mem_cons.1 hz with rfl | h; decide; exact absurd h (by simp [Kd.int, Kd.scalar])) hg; have H1 := Aside0.mk (And.intro ho (And.intro hb1 hr4)); clear ho hb1 hg hat hr4))
              go_roundw
              case rel =>
                refine ⟨k + 1, ?_, ⟨HST.out.2.1⟩, ⟨by rw [HTK.out.1]; exact H1.out.2.2, by rw [HTK.out.1]; exact (by have := HLE.out; have := HR4.out.2; omega)⟩, ⟨by rw [HTK.out.2]; exact H1.out.1⟩, ⟨HXB.out.trans H1.out.2.1⟩⟩
                rw [Road.w64 ((k : Int) + 1) ((k + 1 : Nat) : Int) (by omega) (by omega) (by have := HST.out; omega)]
              case measure =>
                rw [Road.w64 ((k : Int) + 1) ((k + 1 : Nat) : Int) (by omega) (by omega) (by have := HST.out; omega)]
                exact Road.leftOf_lt HST.out.2.1
          · refine Kd.R_lit_step (Kd.int .u64) (w0 := yD) yD.heap.size 32 ?hg (N := 45) ?hd (xs := [(s : Int)]) (inner := [.int .u64 (s : Int)]) (ok := fun _ => True) (okp := fun _ => True) ?hr ?hp (fun _ hk => hk) trivial (Below.refl _ _) (Nat.le_refl _) (by simp) ?_; (case hd => rfl); (case hg => rfl); (case hr => first | (go_simp; done) | (go_simp; rfl)); (case hp => exact Kd.reps_scalar (enc := Value.int .u64) [(s : Int)])
            intro v45 y1 hR_45 hb_y1 _ _
            have hL_45 := Kd.R_lt hR_45
            have hz_y1 := hb_y1.size
            have hT_y1 : Below w2.heap.size w2 y1 := hT_yD.trans (hb_y1.mono (by have z0 := hz0; have := hz_y1; omega))
            have hS_y1 := cell_below hT_y1 HCS.out
            refine hK.out _ _ hS_y1 (fun hHeld => ?_)
            clear hK K
            refine norm_ (a' := ?_) ?_ ?_
            rotate_left
            · show Act.put _ (some 45) _ = _
              simp only [Act.put, List.setIfInBounds_toArray, List.set_cons_zero, List.set_cons_succ, i64_w, i32_w]
              rfl
            refine one_ (i := 0) (N := some 35) #[true, true, true, true, false, true, true, true, true, true, true, false, true, true, true, false, false] rfl rfl (by kernel_rfl) (by decide) (fun K hK => ?_)
            refine Kd.R_lit_step (Kd.int .u64) (w0 := y1) y1.heap.size 32 ?hg (N := 35) ?hd (xs := ([] : List Int)) (inner := []) (ok := fun _ => True) (okp := fun _ => True) ?hr ?hp (fun _ hk => hk) trivial (Below.refl _ _) (Nat.le_refl _) (by simp) ?_; (case hd => rfl); (case hg => rfl); (case hr => first | (go_simp; done) | (go_simp; rfl)); (case hp => exact (Reps.none _ _))
            intro v35 y2 hR_35 hb_y2 _ _
            replace hR_45 := Kd.R_below hR_45 hb_y2
            have hL_35 := Kd.R_lt hR_35
            have hz_y2 := hb_y2.size
            have hT_y2 : Below w2.heap.size w2 y2 := hT_y1.trans (hb_y2.mono (by have z0 := hz0; have := hz_y1; have := hz_y2; omega))
            have hS_y2 := cell_below hT_y2 HCS.out
            refine hK.out _ _ hS_y2 (fun hHeld => ?_)
            clear hK K
            refine norm_ (a' := ?_) ?_ ?_
            rotate_left
            · show Act.put _ (some 35) _ = _
              simp only [Act.put, List.setIfInBounds_toArray, List.set_cons_zero, List.set_cons_succ, i64_w, i32_w]
              rfl
            refine one_ (i := 4) (N := some 39) #[true, true, true, true, true, true, true, true, true, true, true, false, true, true, true, false, false] rfl rfl (by kernel_rfl) (by decide) (fun K hK => ?_)
            have hC_39 := Kd.C_below HCT.out hT_y2
            refine Kd.R_append_rows_step (Kd.int .u64) (w0 := y2) y1.heap.size (by rfl) (.tmp 35) (.tmp 38) 25 32 (.int .u64 0) 8 rfl Tryd.underlying25 sInfoU rfl (by decide) (by omega) v35 ([]) (nI (L.take P)) _ _ _ (fun _ => True) (fun _ => False) rfl rfl hR_35 hC_39 (fun _ _ h => h) (fun _ h => h.elim) (fun _ _ => trivial) (Below.refl _ _) (by have z0 := hz0; have := hz_y1; have := hz_y2; omega) (by simp only [List.length_append, List.length_nil, List.length_cons, nI_len, List.length_take, List.length_drop]; have := HLN.out; have := HST.out; omega) ?_
            intro v39 y3 hR_39 hb_y3 hg_y3 _
            replace hR_45 := Kd.R_grown2 hR_45 rfl hg_y3 (fun k hk e_ => absurd (hL_45 k e_.symm) (by have := Kd.R_base hR_35 k hk; have z0 := hz0; have := hz_y1; have := hz_y2; omega))
            have hL_39 := Kd.R_lt hR_39
            clear hR_35
            have hz_y3 := hb_y3.size
            have hT_y3 : Below w2.heap.size w2 y3 := hT_y2.trans (hb_y3.mono (by have z0 := hz0; have := hz_y1; have := hz_y2; have := hz_y3; omega))
            have hS_y3 := cell_below hT_y3 HCS.out
            refine hK.out _ _ hS_y3 (fun hHeld => ?_)
            clear hK K
            refine norm_ (a' := ?_) ?_ ?_
            rotate_left
            · show Act.put _ (some 39) _ = _
              simp only [Act.put, List.setIfInBounds_toArray, List.set_cons_zero, List.set_cons_succ, i64_w, i32_w]
              rfl
            refine one_ (i := 11) (N := some 46) #[true, true, true, true, true, true, true, true, true, true, true, true, true, true, true, false, false] rfl rfl (by kernel_rfl) (by decide) (fun K hK => ?_)
            obtain ⟨A45, c45, e45, hc45, hC45⟩ := Kd.R_reads hR_45
            subst e45
            refine Kd.R_append_rows_step (Kd.int .u64) (w0 := y3) y1.heap.size (by rfl) (.tmp 39) (.tmp 45) 25 32 (.int .u64 0) 8 rfl Tryd.underlying25 sInfoU rfl (by decide) (by omega) v39 ([] ++ nI (L.take P)) ([(s : Int)]) _ _ _ (fun _ => True) (fun _ => False) rfl rfl hR_39 hC45 (fun _ _ h => h) (fun _ h => h.elim) (fun _ _ => trivial) (Below.refl _ _) (by have z0 := hz0; have := hz_y1; have := hz_y2; have := hz_y3; omega) (by simp only [List.length_append, List.length_nil, List.length_cons, nI_len, List.length_take, List.length_drop]; have := HLN.out; have := HST.out; omega) ?_
            intro v46 y4 hR_46 hb_y4 hg_y4 _
            clear hR_45 hC45 hc45
            have hL_46 := Kd.R_lt hR_46
            clear hR_39
            have hz_y4 := hb_y4.size
            have hT_y4 : Below w2.heap.size w2 y4 := hT_y3.trans (hb_y4.mono (by have z0 := hz0; have := hz_y1; have := hz_y2; have := hz_y3; have := hz_y4; omega))
            have hS_y4 := cell_below hT_y4 HCS.out
            refine hK.out _ _ hS_y4 (fun hHeld => ?_)
            clear hK K
            refine norm_ (a' := ?_) ?_ ?_
            rotate_left
            · show Act.put _ (some 46) _ = _
              simp only [Act.put, List.setIfInBounds_toArray, List.set_cons_zero, List.set_cons_succ, i64_w, i32_w]
              rfl
            refine one_ (i := 15) (N := some 50) #[true, true, true, true, true, true, true, true, true, true, true, true, true, true, true, true, false] rfl rfl (by kernel_rfl) (by decide) (fun K hK => ?_)
            have hC_50 := Kd.C_below HCD.out hT_y4
            refine Kd.R_append_rows_step (Kd.int .u64) (w0 := y4) y1.heap.size (by rfl) (.tmp 46) (.tmp 49) 25 32 (.int .u64 0) 8 rfl Tryd.underlying25 sInfoU rfl (by decide) (by omega) v46 ([] ++ nI (L.take P) ++ [(s : Int)]) (nI (L.drop P)) _ _ _ (fun _ => True) (fun _ => False) rfl rfl hR_46 hC_50 (fun _ _ h => h) (fun _ h => h.elim) (fun _ _ => trivial) (Below.refl _ _) (by have z0 := hz0; have := hz_y1; have := hz_y2; have := hz_y3; have := hz_y4; omega) (by simp only [List.length_append, List.length_nil, List.length_cons, nI_len, List.length_take, List.length_drop]; have := HLN.out; have := HST.out; omega) ?_
            intro v50 y5 hR_50 hb_y5 hg_y5 _
            have hL_50 := Kd.R_lt hR_50
            clear hR_46
            have hz_y5 := hb_y5.size
            have hT_y5 : Below w2.heap.size w2 y5 := hT_y4.trans (hb_y5.mono (by have z0 := hz0; have := hz_y1; have := hz_y2; have := hz_y3; have := hz_y4; have := hz_y5; omega))
            have hS_y5 := cell_below hT_y5 HCS.out
            refine hK.out _ _ hS_y5 (fun hHeld => ?_)
            clear hK K
            refine norm_ (a' := ?_) ?_ ?_
            rotate_left
            · show Act.put _ (some 50) _ = _
              simp only [Act.put, List.setIfInBounds_toArray, List.set_cons_zero, List.set_cons_succ, i64_w, i32_w]
              rfl
            refine pure_ (i := 16) (N := some 4) (v := ?_) (a' := ?_) #[true, true, true, true, true, true, true, true, true, true, true, true, true, true, true, true, true] rfl rfl (by kernel_rfl) (fun _ _ _ h => h) (Or.inl ⟨by rfl, ?_⟩) ?_ ?_
            rotate_left
            · intro w'
              go_simp
              with_reducible rfl
            rotate_left
            · simp only [Act.put, List.setIfInBounds_toArray, List.set_cons_zero, List.set_cons_succ, i64_w, i32_w]
              rfl
            refine done_ (by kernel_rfl) ?_
            have HX4 : Aside0 (Kd.R (Kd.int .u64) 32 y5 w.heap.size (fun k => w.heap.size ≤ k) v50 (nI (insL s L))) := ⟨by rw [HINS.out]; exact Kd.R_mono (Kd.R_bound (Kd.R_lower hR_50 (by have := HB2.out.size; have z0 := hz0; have := hz_y1; have := hz_y2; have := hz_y3; have := hz_y4; have := hz_y5; omega))) (fun k hk => hk.2.1)⟩
            have HTX := Aside0.mk hT_y5
            have g1c := cell_below HTX.out g1
            clear hR_50 hL_50 hHeld sl1 sl2
            have HX5 := Aside0.mk (Kd.R_below HR52.out HTX.out)
            have HXB := Aside0.mk (HB2.out.trans (Below.mono HTX.out HB2.out.size))
            have HXS := Aside0.mk (show w.heap.size ≤ y5.heap.size from HXB.out.size)
            go_wp2_with (first | ((with_reducible refine gate_builtin (b := .append) (xs := #[.tmp 70, .tmp 72]) rfl ?_); at_builtin; refine Kd.R_append Kd.bool (w0 := y5) w.heap.size rfl (.tmp 70) (.tmp 72) 26 4 (.bool false) 1 rfl Tryd.underlying26 sInfoB rfl (by decide) (by decide) _ (wasL [] (acts.take k)) false [.bool false] (fun k => w.heap.size ≤ k) (fun _ => False) rfl rfl (by exact rfl) (fun _ hk => hk.elim) (fun k hk => Nat.le_trans HXS.out hk) HX5.out (Below.refl _ _) HXS.out (by have := HWL.out; have := HST.out; omega) ?_; intro v1 w1 ho hb1 hg hat; have hr4 := Kd.R_over' HX4.out (Kd.R_typed HX5.out) (by intro z hz; rcases List.mem_cons.1 hz with rfl | h; decide; exact absurd h (by simp [Kd.int, Kd.scalar])) hg; have H1 := Aside0.mk (And.intro ho (And.intro hb1 hr4)); clear ho hb1 hg hat hr4))
            go_roundw
            case rel =>
              refine ⟨k + 1, ?_, ⟨HST.out.2.1⟩, ⟨by rw [HTK.out.1]; exact H1.out.2.2, by rw [HTK.out.1]; exact (by have := HLE.out; have := HR4.out.2; omega)⟩, ⟨by rw [HTK.out.2]; exact H1.out.1⟩, ⟨HXB.out.trans H1.out.2.1⟩⟩
              rw [Road.w64 ((k : Int) + 1) ((k + 1 : Nat) : Int) (by omega) (by omega) (by have := HST.out; omega)]
            case measure =>
              rw [Road.w64 ((k : Int) + 1) ((k + 1 : Nat) : Int) (by omega) (by omega) (by have := HST.out; omega)]
              exact Road.leftOf_lt HST.out.2.1
      · rw [hop] at h1
        rw [if_neg (by rw [hop]; decide)] at htk hlen
        have HTK := Aside0.mk (And.intro htk htw)
        have HLE := Aside0.mk hlen
        have HOP := Aside0.mk hop
        clear htk htw hlen hop
        go_wp2_with fail
        refine HAT.out.mono ?_
        rintro e w2 ⟨rfl, hd⟩
        have hb2 : Below wr.heap.size wr w2 := by
          rcases hd with rfl | rfl
          · exact Below.refl _ _
          · exact below_drew (Below.refl _ _)
        have HB2 := Aside0.mk (below_step HB.out hb2)
        have g1 := cell_below hb2 h1
        have g2 := cell_below hb2 h2
        have HCS := Aside0.mk g2
        have HR42 := Aside0.mk (Kd.R_below HR4.out.1 hb2)
        have HR52 := Aside0.mk (Kd.R_below HR5.out hb2)
        have hC42 := Kd.C_below HC4.out.1 hb2
        have HCP := C_pos hC42 P c4 HST.out.2.2 HC4.out.2
        have HCT := Aside0.mk HCP.1
        have HCD := Aside0.mk HCP.2
        clear HCP
        have sl1 := run_take25 A4 L.length P c4 HST.out.2.2 HC4.out.2
        have HDD := Aside0.mk hb2
        clear hd hb2 h1 h2 hC42
        cases q with
        | true =>
          have hP1 : P + 1 ≤ L.length := by
            have h := HPQ.out.1
            rw [isL, ← HPQ.out.2] at h
            rcases Nat.lt_or_ge P L.length with c | c
            · exact c
            · rw [List.getElem?_eq_none c] at h; exact absurd h.symm (by simp)
          have ew : wrap64 ((P : Int) + 1) = ((P + 1 : Nat) : Int) := Road.w64 _ _ (by omega) (by omega) (by have := HLN.out; omega)
          obtain ⟨P1, hP1e⟩ : ∃ P1, P1 = P + 1 := ⟨_, rfl⟩
          rw [← hP1e] at ew hP1
          have HDEL := Aside0.mk (show nI (delL s L) = [] ++ nI (L.take P) ++ nI (L.drop (P + 1)) by rw [isL_delL, if_pos HPQ.out.1.symm, ← HPQ.out.2]; simp [nI])
          have HCE := Aside0.mk (C_pos (Kd.C_below HC4.out.1 HDD.out) P1 c4 hP1 HC4.out.2).2
          obtain ⟨A5, hA5⟩ : ∃ A5, A5 = (if c4 = P1 then A4 else A4.map (·.add P1)) := ⟨_, rfl⟩
          have sl3 := run_drop25 A4 L.length P1 c4 hP1 HC4.out.2
          rw [← hA5] at sl3 HCE
          clear hA5
          have HP1 := Aside0.mk hP1e
          clear hP1 hP1e
          go_wp2_with fail
          refine start_ (n := 11) (S := fun w' => w'.cell? ⟨(ad.add (k * 2)).block, (ad.add (k * 2)).off + 1, none⟩ = some (.int .u64 (s : Int))) (ds := []) #[false, false, false, false, false, false, false, false, false, false, false] (by kernel_rfl) rfl rfl HCS.out (fun hHeld => ?_)
          refine pure_ (i := 1) (N := some 61) (v := ?_) (a' := ?_) #[false, true, false, false, false, false, false, false, false, false, false] rfl rfl (by kernel_rfl) (fun _ _ _ h => h) (Or.inl ⟨by rfl, ?_⟩) ?_ ?_
          rotate_left
          · intro w'
            go_simp
            with_reducible rfl
          rotate_left
          · simp only [Act.put, List.setIfInBounds_toArray, List.set_cons_zero, List.set_cons_succ, i64_w, i32_w]
            rfl
          refine pure_ (i := 2) (N := some 62) (v := ?_) (a' := ?_) #[false, true, true, false, false, false, false, false, false, false, false] rfl rfl (by kernel_rfl) (fun _ _ _ h => h) (Or.inl ⟨by rfl, ?_⟩) ?_ ?_
          rotate_left
          · intro w'
            go_simp
            with_reducible rfl
          rotate_left
          · simp only [Act.put, List.setIfInBounds_toArray, List.set_cons_zero, List.set_cons_succ, i64_w, i32_w]
            rfl
          refine pure_ (i := 3) (N := some 63) (v := ?_) (a' := ?_) #[false, true, true, true, false, false, false, false, false, false, false] rfl rfl (by kernel_rfl) (fun _ _ _ h => h) (Or.inl ⟨by rfl, ?_⟩) ?_ ?_
          rotate_left
          · intro w'
            go_simp
            with_reducible rfl
          rotate_left
          · simp only [Act.put, List.setIfInBounds_toArray, List.set_cons_zero, List.set_cons_succ, i64_w, i32_w]
            rfl
          refine pure_ (i := 5) (N := some 65) (v := ?_) (a' := ?_) #[false, true, true, true, false, true, false, false, false, false, false] rfl rfl (by kernel_rfl) (fun _ _ _ h => h) (Or.inl ⟨by rfl, ?_⟩) ?_ ?_
          rotate_left
          · intro w'
            go_simp
            with_reducible rfl
          rotate_left
          · simp only [Act.put, List.setIfInBounds_toArray, List.set_cons_zero, List.set_cons_succ, i64_w, i32_w]
            rfl
          refine pure_ (i := 6) (N := some 66) (v := ?_) (a' := ?_) #[false, true, true, true, false, true, true, false, false, false, false] rfl rfl (by kernel_rfl) (fun _ _ _ h => h) (Or.inl ⟨by rfl, ?_⟩) ?_ ?_
          rotate_left
          · intro w'
            go_simp
            with_reducible rfl
          rotate_left
          · simp only [Act.put, List.setIfInBounds_toArray, List.set_cons_zero, List.set_cons_succ, i64_w, i32_w]
            rfl
          refine pure_ (i := 7) (N := some 67) (v := ?_) (a' := ?_) #[false, true, true, true, false, true, true, true, false, false, false] rfl rfl (by kernel_rfl) (fun _ _ _ h => h) (Or.inl ⟨by rfl, ?_⟩) ?_ ?_
          rotate_left
          · intro w'
            go_simp
            with_reducible rfl
          rotate_left
          · simp only [Act.put, List.setIfInBounds_toArray, List.set_cons_zero, List.set_cons_succ, i64_w, i32_w]
            rfl
          refine pure_ (i := 8) (N := some 68) (v := ?_) (a' := ?_) #[false, true, true, true, false, true, true, true, true, false, false] rfl rfl (by kernel_rfl) (fun _ _ _ h => h) (Or.inl ⟨by rfl, ?_⟩) ?_ ?_
          rotate_left
          · intro w'
            go_simp
            with_reducible rfl
          rotate_left
          · simp only [Act.put, List.setIfInBounds_toArray, List.set_cons_zero, List.set_cons_succ, i64_w, i32_w]
            rfl
          obtain ⟨yD, hyD⟩ : ∃ yD, yD = w2.drew := ⟨_, rfl⟩
          have hz0 : w2.heap.size ≤ yD.heap.size := by rw [hyD]; exact Nat.le_refl _
          have hT_yD : Below w2.heap.size w2 yD := by rw [hyD]; exact below_drew (Below.refl _ w2)
          have hS_yD := cell_below hT_yD HCS.out
          rw [← hyD] at hHeld ⊢
          clear hyD
          refine one_ (i := 0) (N := some 60) #[true, true, true, true, false, true, true, true, true, false, false] rfl rfl (by kernel_rfl) (by decide) (fun K hK => ?_)
          refine Kd.R_lit_step (Kd.int .u64) (w0 := yD) yD.heap.size 32 ?hg (N := 60) ?hd (xs := ([] : List Int)) (inner := []) (ok := fun _ => True) (okp := fun _ => True) ?hr ?hp (fun _ hk => hk) trivial (Below.refl _ _) (Nat.le_refl _) (by simp) ?_; (case hd => rfl); (case hg => rfl); (case hr => first | (go_simp; done) | (go_simp; rfl)); (case hp => exact (Reps.none _ _))
          intro v60 y1 hR_60 hb_y1 _ _
          have hL_60 := Kd.R_lt hR_60
          have hz_y1 := hb_y1.size
          have hT_y1 : Below w2.heap.size w2 y1 := hT_yD.trans (hb_y1.mono (by have z0 := hz0; have := hz_y1; omega))
          have hS_y1 := cell_below hT_y1 HCS.out
          refine hK.out _ _ hS_y1 (fun hHeld => ?_)
          clear hK K
          refine norm_ (a' := ?_) ?_ ?_
          rotate_left
          · show Act.put _ (some 60) _ = _
            simp only [Act.put, List.setIfInBounds_toArray, List.set_cons_zero, List.set_cons_succ, i64_w, i32_w]
            rfl
          refine one_ (i := 4) (N := some 64) #[true, true, true, true, true, true, true, true, true, false, false] rfl rfl (by kernel_rfl) (by decide) (fun K hK => ?_)
          have hC_64 := Kd.C_below HCT.out hT_y1
          refine Kd.R_append_rows_step (Kd.int .u64) (w0 := y1) yD.heap.size (by rfl) (.tmp 60) (.tmp 63) 25 32 (.int .u64 0) 8 rfl Tryd.underlying25 sInfoU rfl (by decide) (by omega) v60 ([]) (nI (L.take P)) _ _ _ (fun _ => True) (fun _ => False) rfl rfl hR_60 hC_64 (fun _ _ h => h) (fun _ h => h.elim) (fun _ _ => trivial) (Below.refl _ _) (by have z0 := hz0; have := hz_y1; omega) (by simp only [List.length_append, List.length_nil, List.length_cons, nI_len, List.length_take, List.length_drop]; have := HLN.out; have := HST.out; omega) ?_
          intro v64 y2 hR_64 hb_y2 hg_y2 _
          have hL_64 := Kd.R_lt hR_64
          clear hR_60
          have hz_y2 := hb_y2.size
          have hT_y2 : Below w2.heap.size w2 y2 := hT_y1.trans (hb_y2.mono (by have z0 := hz0; have := hz_y1; have := hz_y2; omega))
          have hS_y2 := cell_below hT_y2 HCS.out
          refine hK.out _ _ hS_y2 (fun hHeld => ?_)
          clear hK K
          refine norm_ (a' := ?_) ?_ ?_
          rotate_left
          · show Act.put _ (some 64) _ = _
            simp only [Act.put, List.setIfInBounds_toArray, List.set_cons_zero, List.set_cons_succ, i64_w, i32_w]
            rfl
          refine one_ (i := 9) (N := some 69) #[true, true, true, true, true, true, true, true, true, true, false] rfl rfl (by kernel_rfl) (by decide) (fun K hK => ?_)
          have hC_69 := Kd.C_below HCE.out hT_y2
          refine Kd.R_append_rows_step (Kd.int .u64) (w0 := y2) yD.heap.size (by rfl) (.tmp 64) (.tmp 68) 25 32 (.int .u64 0) 8 rfl Tryd.underlying25 sInfoU rfl (by decide) (by omega) v64 ([] ++ nI (L.take P)) (nI (L.drop P1)) _ _ _ (fun _ => True) (fun _ => False) rfl rfl hR_64 hC_69 (fun _ _ h => h) (fun _ h => h.elim) (fun _ _ => trivial) (Below.refl _ _) (by have z0 := hz0; have := hz_y1; have := hz_y2; omega) (by simp only [List.length_append, List.length_nil, List.length_cons, nI_len, List.length_take, List.length_drop]; have := HLN.out; have := HST.out; omega) ?_
          intro v69 y3 hR_69 hb_y3 hg_y3 _
          have hL_69 := Kd.R_lt hR_69
          clear hR_64
          have hz_y3 := hb_y3.size
          have hT_y3 : Below w2.heap.size w2 y3 := hT_y2.trans (hb_y3.mono (by have z0 := hz0; have := hz_y1; have := hz_y2; have := hz_y3; omega))
          have hS_y3 := cell_below hT_y3 HCS.out
          refine hK.out _ _ hS_y3 (fun hHeld => ?_)
          clear hK K
          refine norm_ (a' := ?_) ?_ ?_
          rotate_left
          · show Act.put _ (some 69) _ = _
            simp only [Act.put, List.setIfInBounds_toArray, List.set_cons_zero, List.set_cons_succ, i64_w, i32_w]
            rfl
          refine pure_ (i := 10) (N := some 4) (v := ?_) (a' := ?_) #[true, true, true, true, true, true, true, true, true, true, true] rfl rfl (by kernel_rfl) (fun _ _ _ h => h) (Or.inl ⟨by rfl, ?_⟩) ?_ ?_
          rotate_left
          · intro w'
            go_simp
            with_reducible rfl
          rotate_left
          · simp only [Act.put, List.setIfInBounds_toArray, List.set_cons_zero, List.set_cons_succ, i64_w, i32_w]
            rfl
          refine done_ (by kernel_rfl) ?_
          have HX4 : Aside0 (Kd.R (Kd.int .u64) 32 y3 w.heap.size (fun k => w.heap.size ≤ k) v69 (nI (delL s L))) := ⟨by rw [HDEL.out, ← HP1.out]; exact Kd.R_mono (Kd.R_bound (Kd.R_lower hR_69 (by have := HB2.out.size; have z0 := hz0; have := hz_y1; have := hz_y2; have := hz_y3; omega))) (fun k hk => hk.2.1)⟩
          have HTX := Aside0.mk hT_y3
          clear hR_69 hL_69 hHeld sl1 sl3 ew
          have HX5 := Aside0.mk (Kd.R_below HR52.out HTX.out)
          have HXB := Aside0.mk (HB2.out.trans (Below.mono HTX.out HB2.out.size))
          have HXS := Aside0.mk (show w.heap.size ≤ y3.heap.size from HXB.out.size)
          go_wp2_with (first | ((with_reducible refine gate_builtin (b := .append) (xs := #[.tmp 70, .tmp 72]) rfl ?_); at_builtin; refine Kd.R_append Kd.bool (w0 := y3) w.heap.size rfl (.tmp 70) (.tmp 72) 26 4 (.bool false) 1 rfl Tryd.underlying26 sInfoB rfl (by decide) (by decide) _ (wasL [] (acts.take k)) true [.bool true] (fun k => w.heap.size ≤ k) (fun _ => False) rfl rfl (by exact rfl) (fun _ hk => hk.elim) (fun k hk => Nat.le_trans HXS.out hk) HX5.out (Below.refl _ _) HXS.out (by have := HWL.out; have := HST.out; omega) ?_; intro v1 w1 ho hb1 hg hat; have hr4 := Kd.R_over' HX4.out (Kd.R_typed HX5.out) (by intro z hz; rcases List.mem_cons.1 hz with rfl | h; decide; exact absurd h (by simp [Kd.int, Kd.scalar])) hg; have H1 := Aside0.mk (And.intro ho (And.intro hb1 hr4)); clear ho hb1 hg hat hr4))
          go_roundw
          case rel =>
            refine ⟨k + 1, ?_, ⟨HST.out.2.1⟩, ⟨by rw [HTK.out.1]; exact H1.out.2.2, by rw [HTK.out.1]; exact (by have := HLE.out; have := HR4.out.2; omega)⟩, ⟨by rw [HTK.out.2]; exact H1.out.1⟩, ⟨HXB.out.trans H1.out.2.1⟩⟩
            rw [Road.w64 ((k : Int) + 1) ((k + 1 : Nat) : Int) (by omega) (by omega) (by have := HST.out; omega)]
          case measure =>
            rw [Road.w64 ((k : Int) + 1) ((k + 1 : Nat) : Int) (by omega) (by omega) (by have := HST.out; omega)]
            exact Road.leftOf_lt HST.out.2.1
        | false =>
          have HX4 : Aside0 (Kd.R (Kd.int .u64) 32 w2 w.heap.size (fun k => w.heap.size ≤ k) (.slice A4 L.length c4) (nI (delL s L))) := ⟨by rw [show delL s L = L by rw [isL_delL, if_neg (by rw [← HPQ.out.1]; simp)]]; exact HR42.out⟩
          clear sl1
          have HX5 := Aside0.mk (Kd.R_below HR52.out (Below.refl w2.heap.size w2))
          have HXB := Aside0.mk (HB2.out.trans (Below.mono (Below.refl w2.heap.size w2) HB2.out.size))
          have HXS := Aside0.mk (show w.heap.size ≤ w2.heap.size from HXB.out.size)
          go_wp2_with (first | ((with_reducible refine gate_builtin (b := .append) (xs := #[.tmp 70, .tmp 72]) rfl ?_); at_builtin; refine Kd.R_append Kd.bool (w0 := w2) w.heap.size rfl (.tmp 70) (.tmp 72) 26 4 (.bool false) 1 rfl Tryd.underlying26 sInfoB rfl (by decide) (by decide) _ (wasL [] (acts.take k)) false [.bool false] (fun k => w.heap.size ≤ k) (fun _ => False) rfl rfl (by exact rfl) (fun _ hk => hk.elim) (fun k hk => Nat.le_trans HXS.out hk) HX5.out (Below.refl _ _) HXS.out (by have := HWL.out; have := HST.out; omega) ?_; intro v1 w1 ho hb1 hg hat; have hr4 := Kd.R_over' HX4.out (Kd.R_typed HX5.out) (by intro z hz; rcases List.mem_cons.1 hz with rfl | h; decide; exact absurd h (by simp [Kd.int, Kd.scalar])) hg; have H1 := Aside0.mk (And.intro ho (And.intro hb1 hr4)); clear ho hb1 hg hat hr4))
          go_roundw
          case rel =>
            refine ⟨k + 1, ?_, ⟨HST.out.2.1⟩, ⟨by rw [HTK.out.1]; exact H1.out.2.2, by rw [HTK.out.1]; exact (by have := HLE.out; have := HR4.out.2; omega)⟩, ⟨by rw [HTK.out.2]; exact H1.out.1⟩, ⟨HXB.out.trans H1.out.2.1⟩⟩
            rw [Road.w64 ((k : Int) + 1) ((k + 1 : Nat) : Int) (by omega) (by omega) (by have := HST.out; omega)]
          case measure =>
            rw [Road.w64 ((k : Int) + 1) ((k + 1 : Nat) : Int) (by omega) (by omega) (by have := HST.out; omega)]
            exact Road.leftOf_lt HST.out.2.1
    · obtain rfl : k = acts.length := by have := HK.out; omega
      have HF := Aside0.mk (show Kd.R (Kd.int .u64) 32 wr w.heap.size (fun k => w.heap.size ≤ k) _ (nI (actsL [] acts)) by have := HR4.out.1; rw [List.take_length] at this; exact this)
      have HG := Aside0.mk (show Kd.R Kd.bool 4 wr w.heap.size (fun k => w.heap.size ≤ k) _ (wasL [] acts) by have := HR5.out; rw [List.take_length] at this; exact this)
      clear hk
      go_wp2_with fail
      go_ret2
      exact ⟨_, _, rfl, Kd.R_mono HF.out (fun _ _ => trivial), Kd.R_mono HG.out (fun _ _ => trivial), HB.out⟩

end Go.Proofs.YtjhdnapgdajllaaDoor.SetSpecW
