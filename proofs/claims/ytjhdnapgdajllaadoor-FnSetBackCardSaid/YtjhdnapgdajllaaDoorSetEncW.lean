/- WALKS: a set's bytes. -/
import Derived.Test.YtjhdnapgdajllaaDoorProg
import Derived.Below
import Derived.Deep.Draws
import Derived.Deep.AppendLies
import Derived.Maps.AppendAt
import Derived.OwnWalk
import Derived.Laws.BytesArg
import Derived.Laws.MakeOwn
import Derived.Laws.OwnMore
import Derived.Deep.OwnRows
import Derived.Tactics
import Derived.Lib.ConvBytes
import Derived.Laws.Slices
import Derived.WalkKit
import Derived.KernelRfl
import Derived.RowKit3
import Derived.Deep.LoopGhost
import Derived.Deep.QuietTactic
import Derived.BigQuiet
import Derived.WideLaws
import Derived.Deep.DeepCutAuto
import Derived.Deep.CutBlock
import Derived.Deep.RegionHeld3
import Derived.Laws.Rows
import Derived.Lib.AppendStr
import Derived.ArgAppend
import Derived.Laws.IdiomCopy
import Derived.OrdersHeld
import Derived.Laws.BitsLemmas
import Derived.RowKit
import Derived.Test.YtjhdnapgdajllaaDoorWWords
import Derived.Test.YtjhdnapgdajllaaDoorWLast
import Derived.Test.YtjhdnapgdajllaaDoorWTab
import Derived.Test.YtjhdnapgdajllaaDoorWFour
import Derived.Test.YtjhdnapgdajllaaDoorWQPut
import Derived.Test.YtjhdnapgdajllaaDoorWApart
import Derived.Test.YtjhdnapgdajllaaDoorWArr
import Derived.Test.YtjhdnapgdajllaaDoorWZeros
import Derived.Test.YtjhdnapgdajllaaDoorWFoot
import Derived.Test.YtjhdnapgdajllaaDoorWKept
import Derived.Test.YtjhdnapgdajllaaDoorWShare
import Derived.Test.YtjhdnapgdajllaaDoorWN
import Derived.Test.YtjhdnapgdajllaaDoorWFootNe
import Derived.Test.YtjhdnapgdajllaaDoorWAt
import Derived.Test.YtjhdnapgdajllaaDoorWEqStruct
import Derived.Test.YtjhdnapgdajllaaDoorWRepsOne
import Derived.Test.YtjhdnapgdajllaaDoorWInv
import Derived.Test.YtjhdnapgdajllaaDoorWInvWords
import Derived.Test.YtjhdnapgdajllaaDoorWGuard
import Derived.Test.YtjhdnapgdajllaaDoorWNEv
import Derived.Test.YtjhdnapgdajllaaDoorWMore
import Derived.Test.YtjhdnapgdajllaaDoorSetSpecW
import Derived.Test.YtjhdnapgdajllaaDoorShelf
import Derived.Lib.EndianBits
namespace Go.Proofs.YtjhdnapgdajllaaDoor.SetEncW
open Go.RowKit Go.Proofs.YtjhdnapgdajllaaDoorW.PrintWords Go.Proofs.YtjhdnapgdajllaaDoorW.PrintLast Go.Proofs.YtjhdnapgdajllaaDoorW.PrintMore
attribute [local go_sem] max2_int min2_int max_two min_two max_three min_three max_four min_four   -- for this text's walks alone
set_option linter.unusedVariables false
set_option linter.unusedSimpArgs false



open _root_.Go.Proofs.YtjhdnapgdajllaaDoor.SetW _root_.Go.Proofs.YtjhdnapgdajllaaDoor.SetSpecW
/-- A number's bytes, the least first. -/
def leN (k v : Nat) : List Nat := (Lib.leBytes k v).map UInt8.toNat
theorem leBytes_len : ∀ k v, (Lib.leBytes k v).length = k
  | 0, _ => rfl
  | k + 1, v => by rw [Lib.leBytes, List.length_cons, leBytes_len k]
theorem leN_len (k v : Nat) : (leN k v).length = k := by rw [leN, List.length_map, leBytes_len]
def u8s (l : List Nat) : List Value := l.map (fun n : Nat => Value.int .u8 (n : Int))
theorem u8s_len (l : List Nat) : (u8s l).length = l.length := List.length_map _
theorem byteCells_le (k v : Nat) : Lib.byteCells (Lib.leBytes k v) = u8s (leN k v) := by
  rw [Lib.byteCells, u8s, leN, List.map_map]
  rfl
theorem leN_byte (k v : Nat) : ∀ x ∈ leN k v, x < 256 := by
  intro x hx
  obtain ⟨b, _, rfl⟩ := List.mem_map.1 hx
  exact b.toNat_lt
/-- A row of bytes in a block of its own. -/
def rowB (w : World) (G : Nat) (xs : List Nat) : Prop := w.heap[G]? = some (.cells (u8s xs).toArray 5 (0, 0))
theorem u8s_append (a b : List Nat) : u8s (a ++ b) = u8s a ++ u8s b := List.map_append
theorem put_row {G i k : Nat} {xs : List Nat} {v : Nat} {w : World} (hG : rowB w G xs) (hi : i + k ≤ xs.length) :
    rowB ((w.alloc (.cells #[] 94)).setCells G i (Lib.byteCells (Lib.leBytes k v))) G (xs.take i ++ leN k v ++ xs.drop (i + k)) ∧ Chg [G] w ((w.alloc (.cells #[] 94)).setCells G i (Lib.byteCells (Lib.leBytes k v))) := by
  have hlt : G < w.heap.size := (Array.getElem?_eq_some_iff.1 hG).1
  have hl : (Lib.byteCells (Lib.leBytes k v)).length = k := by rw [byteCells_le, u8s_len, leN_len]
  have hG2 : (w.alloc (.cells #[] 94)).heap[G]? = some (.cells (u8s xs).toArray 5 (0, 0)) := by rw [Below.heap_alloc _ _ _ hlt]; exact hG
  obtain ⟨cur', g1, g2, g3⟩ := setCells_row (Lib.byteCells (Lib.leBytes k v)) i _ (u8s xs).toArray hG2 (by rw [hl]; simpa [u8s_len] using hi)
  obtain ⟨s1, s2, s3, s4⟩ := setCells_same G (Lib.byteCells (Lib.leBytes k v)) i (w.alloc (.cells #[] 94))
  refine ⟨?_, ⟨s1, s2, s3, by rw [s4]; simp, fun j hj hn => ?_⟩⟩
  · rw [rowB, g1]
    congr 2
    apply Array.toList_inj.1
    rw [g3, hl, byteCells_le]
    simp [u8s]
  · rw [setCells_far _ _ j (by simpa using hn), Below.heap_alloc _ _ _ hj]
section
variable {w : World} {G : Nat} {xs : List Nat}
theorem rowB_cell (hG : rowB w G xs) (j : Nat) (hj : j < xs.length) : w.cell? ⟨G, j, none⟩ = some (.int .u8 (xs[j] : Nat)) := by
  rw [cell_of_row w G j _ _ _ hG]
  simp [u8s, hj]
theorem rowB_free (hG : rowB w G xs) (j : Nat) : w.frozen? ⟨G, j, none⟩ = false := by
  have h : w.heap[G]? = some (.cells (u8s xs).toArray 5 (0, 0)) := hG
  simp [World.frozen?, h]
end
theorem put8_calls (G i m c v : Nat) (xs : List Nat) (w : World) (hv : v < 18446744073709551616) (hm : 8 ≤ m) (hG : rowB w G xs) (hi : i + 8 ≤ xs.length) :
    Calls Tryd.prog 61 #[.agg #[], .slice (some ⟨G, i, none⟩) m c, .int .u64 v] w fun e w' => e = .returned (.tuple #[]) ∧ rowB w' G (xs.take i ++ leN 8 v ++ xs.drop (i + 8)) ∧ Chg [G] w w' := by
  refine (Tryd.binary_LE_PutUint64 G i m c v hv _ _ _ _ _ _ _ _ w hm (rowB_cell hG i (by omega)) (rowB_cell hG (i + 1) (by omega)) (rowB_cell hG (i + 2) (by omega)) (rowB_cell hG (i + 3) (by omega)) (rowB_cell hG (i + 4) (by omega)) (rowB_cell hG (i + 5) (by omega)) (rowB_cell hG (i + 6) (by omega)) (rowB_cell hG (i + 7) (by omega)) (rowB_free hG _) (rowB_free hG _) (rowB_free hG _) (rowB_free hG _) (rowB_free hG _) (rowB_free hG _) (rowB_free hG _) (rowB_free hG _)).mono ?_
  rintro e w' ⟨rfl, rfl⟩
  exact ⟨rfl, (put_row hG hi).1, (put_row hG hi).2⟩
theorem put4_calls (G i m c v : Nat) (xs : List Nat) (w : World) (hv : v < 4294967296) (hm : 4 ≤ m) (hG : rowB w G xs) (hi : i + 4 ≤ xs.length) :
    Calls Tryd.prog 58 #[.agg #[], .slice (some ⟨G, i, none⟩) m c, .int .u32 v] w fun e w' => e = .returned (.tuple #[]) ∧ rowB w' G (xs.take i ++ leN 4 v ++ xs.drop (i + 4)) ∧ Chg [G] w w' := by
  refine (Tryd.binary_LE_PutUint32 G i m c v hv _ _ _ _ w hm (rowB_cell hG i (by omega)) (rowB_cell hG (i + 1) (by omega)) (rowB_cell hG (i + 2) (by omega)) (rowB_cell hG (i + 3) (by omega)) (rowB_free hG _) (rowB_free hG _) (rowB_free hG _) (rowB_free hG _)).mono ?_
  rintro e w' ⟨rfl, rfl⟩
  exact ⟨rfl, (put_row hG hi).1, (put_row hG hi).2⟩
theorem put2_calls (G i m c v : Nat) (xs : List Nat) (w : World) (hv : v < 65536) (hm : 2 ≤ m) (hG : rowB w G xs) (hi : i + 2 ≤ xs.length) :
    Calls Tryd.prog 62 #[.agg #[], .slice (some ⟨G, i, none⟩) m c, .int .u16 v] w fun e w' => e = .returned (.tuple #[]) ∧ rowB w' G (xs.take i ++ leN 2 v ++ xs.drop (i + 2)) ∧ Chg [G] w w' := by
  refine (Tryd.binary_LE_PutUint16 G i m c v hv _ _ w hm (rowB_cell hG i (by omega)) (rowB_cell hG (i + 1) (by omega)) (rowB_free hG _) (rowB_free hG _)).mono ?_
  rintro e w' ⟨rfl, rfl⟩
  exact ⟨rfl, (put_row hG hi).1, (put_row hG hi).2⟩
theorem load_le (g : Nat) (w : World) : (Instr.loadAt 94 (.pointer (some ⟨g, 0, none⟩))).run Tryd.prog w = .ok (.agg #[]) w := by kernel_rfl
theorem ne_type {w : World} {x y T T' : Nat} {cs cs' : Array Value} (hx : w.heap[x]? = some (.cells cs T (0, 0))) (hy : w.heap[y]? = some (.cells cs' T' (0, 0))) (h : T ≠ T') : x ≠ y := by
  intro e
  subst e
  rw [hx] at hy
  injection hy with hy
  injection hy with _ hy _
  exact h hy
theorem slice_lh8 (B n c i j : Nat) (hi : i ≤ j) (hj : j ≤ c) (hic : i < c) (W : World) : (Instr.slice 47 (.slice (some ⟨B, 0, none⟩) n c) (some (.int .i64 (i : Int))) (some (.int .i64 (j : Int))) none).run Tryd.prog W = .ok (.slice (some ⟨B, i, none⟩) (j - i) (c - i)) W := by
  obtain ⟨i0, hi0, hz0⟩ := Option.map_eq_some_iff.1 (show (Tryd.prog.info? 5).map (fun i => (i.zero, i.size, i.bytes)) = some (some (.int .u8 0), 1, 1) by kernel_rfl)
  have hz1 : i0.size = 1 := congrArg (fun x => x.2.1) hz0
  have hel : (Tryd.prog).elem 47 = 5 := by simp [Program.elem, Tryd.underlying47]
  have hu : (Tryd.prog).underlying 47 = some (.slice ((Tryd.prog).elem 47)) := by rw [hel]; exact Tryd.underlying47
  rw [run_slice_lh W 47 (some ⟨B, 0, none⟩) n c hu .i64 .i64 (i : Int) (j : Int) (by omega) (by omega) (by omega), hel]
  simp [sizeOf, typeInfo, hi0, hz1, sliced, Result.andThen, Addr.add]
  rw [if_neg (by omega)]
  by_cases h : i = 0
  · rw [if_pos h, h]
  · rw [if_neg h]
theorem slice_l8 (B o n c i : Nat) (hi : i ≤ n) (hic : i < c) (W : World) : (Instr.slice 47 (.slice (some ⟨B, o, none⟩) n c) (some (.int .i64 (i : Int))) none none).run Tryd.prog W = .ok (.slice (some ⟨B, o + i, none⟩) (n - i) (c - i)) W := by
  obtain ⟨i0, hi0, hz0⟩ := Option.map_eq_some_iff.1 (show (Tryd.prog.info? 5).map (fun i => (i.zero, i.size, i.bytes)) = some (some (.int .u8 0), 1, 1) by kernel_rfl)
  have hz1 : i0.size = 1 := congrArg (fun x => x.2.1) hz0
  have hel : (Tryd.prog).elem 47 = 5 := by simp [Program.elem, Tryd.underlying47]
  have hu : (Tryd.prog).underlying 47 = some (.slice ((Tryd.prog).elem 47)) := by rw [hel]; exact Tryd.underlying47
  rw [run_slice_l W 47 (some ⟨B, o, none⟩) n c hu .i64 (i : Int) (by omega) (by omega), hel]
  simp [sizeOf, typeInfo, hi0, hz1, sliced, Result.andThen, Addr.add]
  rw [if_neg (by omega)]
  by_cases h : i = 0
  · rw [if_pos h, h, Nat.add_zero]
  · rw [if_neg h]
def recN (b : Nat) (bs : List Nat) (h : Int) : List Nat := leN 8 b ++ (bs.flatMap (leN 8) ++ leN 2 h.toNat)
theorem flat_len : ∀ bs : List Nat, (bs.flatMap (leN 8)).length = 8 * bs.length
  | [] => rfl
  | z :: bs => by rw [List.flatMap_cons, List.length_append, leN_len, flat_len bs, List.length_cons]; omega
theorem recN_len {b : Nat} {bs : List Nat} {h : Int} (hl : bs.length = 32) : (recN b bs h).length = 266 := by
  rw [recN, List.length_append, List.length_append, leN_len, flat_len, leN_len, hl]
/-- The bytes so far, while nodes are written. -/
structure EncAt (BF IX BB N : Nat) (D : List Nat) (w : World) : Prop where
  buf : w.heap[BF]? = some (.cells #[.slice (some ⟨BB, 0, none⟩) N N] 47 (0, 0))
  idx : w.heap[IX]? = some (.cells #[.int .i64 (D.length : Nat)] 3 (0, 0))
  row : ∃ R, rowB w BB (D ++ R) ∧ D.length + R.length = N
theorem put_at {D R : List Nat} {k v : Nat} (hk : k ≤ R.length) : (D ++ R).take D.length ++ leN k v ++ (D ++ R).drop (D.length + k) = (D ++ leN k v) ++ R.drop k := by
  have e : (D ++ R).drop (D.length + k) = R.drop k := by rw [← List.drop_drop, List.drop_left]
  rw [List.take_left, e]
set_option maxHeartbeats 16000000 in
set_option maxRecDepth 100000 in
theorem encNode_calls (BF IX LE BB N : Nat) (D : List Nat) (g b : Nat) (bs : List Nat) (l r : Tr) (h0 : Int) (w : World) (hI : EncAt BF IX BB N D w) (ha : (Tr.node g b bs l r h0).at w) (hb : b < 18446744073709551616) (hz : ∀ z ∈ bs, z < 18446744073709551616) (hh : 0 ≤ h0 ∧ h0 < 65536) (hN : D.length + 266 ≤ N) (hN2 : N ≤ 100000000) :
    Calls Tryd.prog 60 #[.pointer (some ⟨g, 0, none⟩), .pointer (some ⟨BF, 0, none⟩), .pointer (some ⟨IX, 0, none⟩), .pointer (some ⟨LE, 0, none⟩)] w fun e w' => e = .returned (.tuple #[]) ∧ EncAt BF IX BB N (D ++ recN b bs h0) w' ∧ Chg [BB, IX] w w' := by
  obtain ⟨Rr, hR, hRl⟩ := hI.row
  obtain ⟨i, hi⟩ : ∃ i, i = D.length := ⟨_, rfl⟩
  obtain ⟨q, hq⟩ : ∃ q, q = i + 266 := ⟨_, rfl⟩
  obtain ⟨M, hM⟩ : ∃ M, M = N - i := ⟨_, rfl⟩
  have n1 : g ≠ BB := ne_type ha.2.1 hR (by decide)
  have n2 : g ≠ IX := ne_type ha.2.1 hI.idx (by decide)
  have n3 : BF ≠ BB := ne_type hI.buf hR (by decide)
  have n4 : BF ≠ IX := ne_type hI.buf hI.idx (by decide)
  have n5 : IX ≠ BB := ne_type hI.idx hR (by decide)
  have c1 : w.cell? ⟨BF, 0, none⟩ = some (.slice (some ⟨BB, 0, none⟩) N N) := cell_of_row w BF 0 _ _ _ hI.buf
  have c2 : w.cell? ⟨IX, 0, none⟩ = some (.int .i64 (i : Nat)) := by rw [hi]; exact cell_of_row w IX 0 _ _ _ hI.idx
  have s1 : ∀ W, (Instr.slice 47 (.slice (some ⟨BB, 0, none⟩) N N) (some (.int .i64 (i : Int))) (some (.int .i64 (q : Int))) none).run Tryd.prog W = .ok (.slice (some ⟨BB, i, none⟩) 266 M) W := fun W => by
    rw [slice_lh8 BB N N i q (by omega) (by omega) (by omega) W, hM, show q - i = 266 by omega]
  have HB := Aside0.mk (And.intro hI (And.intro hR (And.intro hRl (And.intro hi (And.intro hq (And.intro hM (And.intro hN (And.intro hN2 hh))))))))
  have HNE := Aside0.mk (And.intro n1 (And.intro n2 (And.intro n3 (And.intro n4 n5))))
  have HN := Aside0.mk (And.intro ha.1 ha.2.1)
  have HZ := Aside0.mk (And.intro hb hz)
  have HP1 := Aside0.mk (put8_calls BB i 266 M b (D ++ Rr) w.drew hb (by decide) hR (by rw [List.length_append]; omega))
  have w1 : wrap64 ((i : Int) + 266) = (q : Int) := Road.w64 _ _ (by omega) (by omega) (by omega)
  have w1' : IntKind.i64.wrap ((i : Int) + 266) = (q : Int) := Road.wi64 _ _ (by omega) (by omega) (by omega)
  clear hI ha hb hz hh hN hN2 hR hRl hi hq hM n1 n2 n3 n4 n5
  go_enter Tryd.func60, Tryd.ntmps60
  go_wp2_with fail
  refine start_ (n := 7) (S := fun w' => w'.heap[g]? = some (.cells (cellsN b bs l.p r.p h0) 88 (0, 0))) (ds := [6]) #[false, false, false, false, false, false, false] (by kernel_rfl) rfl rfl HN.out.2 (fun hHeld => ?_)
  refine take_ (i := 0) (N := some 12) (v := ?_) (a' := ?_) #[true, false, false, false, false, false, false] rfl rfl (by kernel_rfl) (fun _ _ _ h => h) (Or.inl ⟨by rfl, ?_⟩) hHeld ?_ ?_
  rotate_left
  · intro w' hS'
    have hle := load_le LE w'
    go_simp
    with_reducible rfl
  rotate_left
  · simp only [Act.put, List.setIfInBounds_toArray, List.set_cons_zero, List.set_cons_succ, i64_w, i32_w]
    rfl
  refine pure_ (i := 1) (N := some 13) (v := ?_) (a' := ?_) #[true, true, false, false, false, false, false] rfl rfl (by kernel_rfl) (fun _ _ _ h => h) (Or.inl ⟨by rfl, ?_⟩) ?_ ?_
  rotate_left
  · intro w'
    go_simp
    with_reducible rfl
  rotate_left
  · simp only [Act.put, List.setIfInBounds_toArray, List.set_cons_zero, List.set_cons_succ, i64_w, i32_w]
    rfl
  refine pure_ (i := 2) (N := some 14) (v := ?_) (a' := ?_) #[true, true, true, false, false, false, false] rfl rfl (by kernel_rfl) (fun _ _ _ h => h) (Or.inl ⟨by rfl, ?_⟩) ?_ ?_
  rotate_left
  · intro w'
    go_simp
    with_reducible rfl
  rotate_left
  · simp only [Act.put, List.setIfInBounds_toArray, List.set_cons_zero, List.set_cons_succ, i64_w, i32_w]
    rfl
  refine pure_ (i := 3) (N := some 15) (v := ?_) (a' := ?_) #[true, true, true, true, false, false, false] rfl rfl (by kernel_rfl) (fun _ _ _ h => h) (Or.inl ⟨by rfl, ?_⟩) ?_ ?_
  rotate_left
  · intro w'
    go_simp
    with_reducible rfl
  rotate_left
  · simp only [Act.put, List.setIfInBounds_toArray, List.set_cons_zero, List.set_cons_succ, i64_w, i32_w]
    rfl
  refine pure_ (i := 4) (N := some 16) (v := ?_) (a' := ?_) #[true, true, true, true, true, false, false] rfl rfl (by kernel_rfl) (fun _ _ _ h => h) (Or.inl ⟨by rfl, ?_⟩) ?_ ?_
  rotate_left
  · intro w'
    go_simp
    with_reducible rfl
  rotate_left
  · simp only [Act.put, List.setIfInBounds_toArray, List.set_cons_zero, List.set_cons_succ, i64_w, i32_w]
    rfl
  refine take_ (i := 5) (N := some 17) (v := ?_) (a' := ?_) #[true, true, true, true, true, true, false] rfl rfl (by kernel_rfl) (fun _ _ _ h => h) (Or.inl ⟨by rfl, ?_⟩) hHeld ?_ ?_
  rotate_left
  · intro w' hS'
    have cb := nd_base hS'
    go_simp
    with_reducible rfl
  rotate_left
  · simp only [Act.put, List.setIfInBounds_toArray, List.set_cons_zero, List.set_cons_succ, i64_w, i32_w]
    rfl
  refine last_ (i := 6) (N := some 18) #[true, true, true, true, true, true, true] rfl rfl (by kernel_rfl) (by decide) (fun K hK => ?_)
  refine goes_ Tryd.func61 (by kernel_rfl) rfl #[.agg #[], .slice (some ⟨BB, i, none⟩) 266 M, .int .u64 (b : Int)] (by rfl) rfl rfl (by simp only [List.map_toArray, List.map_cons, List.map_nil]; rfl) ?_
  refine (HP1.out).mono ?_
  rintro e w3 ⟨rfl, row3, c3⟩
  refine ⟨_, rfl, ?_⟩
  refine hK.out _ _ ?_
  clear hK K
  refine done_ (by kernel_rfl) ?_
  obtain ⟨hI, hR, hRl, hi, hq, hM, hN, hN2, hh⟩ := HB.out
  rw [hi, put_at (by omega)] at row3
  have c03 : Chg [BB] w w3 := (Chg_drew w).trans c3 (fun x h => absurd h (by simp)) (fun x h _ => h)
  have H3 := Aside0.mk (And.intro row3 c03)
  clear row3 c3 c03 hI hR hRl hi hq hM hN hN2 hh s1 w1 w1' c1 c2 HP1
  go_wp2_with fail
  go_loopw [19] (fun v19 wx => ∃ j : Nat, v19 = .int .i64 (j : Int) ∧ Aside0 (j ≤ 32) ∧ Aside0 (rowB wx BB ((D ++ (leN 8 b ++ (bs.take j).flatMap (leN 8))) ++ Rr.drop (8 + 8 * j)) ∧ Chg [BB] w wx)) (fun v19 _ => Road.leftOf 32 v19)
  case atStart => exact ⟨0, rfl, ⟨by omega⟩, ⟨by have := H3.out.1; rw [List.take_zero, List.flatMap_nil, List.append_nil]; exact this, H3.out.2⟩⟩
  case round =>
    obtain ⟨j, rfl, HJ, HX⟩ := hrel
    obtain ⟨hI, hR, hRl, hi, hq, hM, hN, hN2, hh⟩ := HB.out
    have hnode : wr.heap[g]? = some (.cells (cellsN b bs l.p r.p h0) 88 (0, 0)) := (HX.out.2.keep g (Array.getElem?_eq_some_iff.1 HN.out.2).1 (by simp; exact HNE.out.1)).trans HN.out.2
    rcases Nat.lt_or_ge j 32 with hj | hj
    · have k1' := eq_true (show (j : Int) < 32 by omega)
      have k2' := eq_true hj
      obtain ⟨m, hm⟩ : ∃ m, m = 8 * j := ⟨_, rfl⟩
      obtain ⟨o, ho⟩ : ∃ o, o = 8 + m := ⟨_, rfl⟩
      obtain ⟨p, hp⟩ : ∃ p, p = i + o := ⟨_, rfl⟩
      obtain ⟨u, hu⟩ : ∃ u, u = 266 - o := ⟨_, rfl⟩
      obtain ⟨t, ht⟩ : ∃ t, t = M - o := ⟨_, rfl⟩
      obtain ⟨z, hz⟩ : ∃ z, z = bs.getD j 0 := ⟨_, rfl⟩
      have s2 : ∀ W, (Instr.slice 47 (.slice (some ⟨BB, i, none⟩) 266 M) (some (.int .i64 (o : Int))) none none).run Tryd.prog W = .ok (.slice (some ⟨BB, p, none⟩) u t) W := fun W => by
        rw [slice_l8 BB i 266 M o (by omega) (by omega) W, hp, hu, ht]
      have hjb : j < bs.length := by rw [HN.out.1]; exact hj
      have hzj : z = bs[j] := by rw [hz, List.getD_eq_getElem?_getD, List.getElem?_eq_getElem hjb]; rfl
      have hz64 : z < 18446744073709551616 := by rw [hzj]; exact HZ.out.2 _ (List.getElem_mem hjb)
      have hlD : (D ++ (leN 8 b ++ (bs.take j).flatMap (leN 8))).length = p := by
        rw [List.length_append, List.length_append, leN_len, flat_len, List.length_take]
        omega
      have HP5 := Aside0.mk (put8_calls BB p u t z _ wr.drew hz64 (by omega) HX.out.1 (by rw [List.length_append, hlD, List.length_drop]; omega))
      have HJ2 := Aside0.mk (And.intro hj hz)
      have HN3 := Aside0.mk hnode
      have HQ := Aside0.mk (And.intro hm (And.intro ho (And.intro hp (And.intro hu (And.intro ht (And.intro hlD hzj))))))
      have w2 : wrap64 ((j : Int) * 8) = (m : Int) := Road.w64 _ _ (by omega) (by omega) (by omega)
      have w2' : IntKind.i64.wrap ((j : Int) * 8) = (m : Int) := Road.wi64 _ _ (by omega) (by omega) (by omega)
      have w3 : wrap64 (8 + (m : Int)) = (o : Int) := Road.w64 _ _ (by omega) (by omega) (by omega)
      have w3' : IntKind.i64.wrap (8 + (m : Int)) = (o : Int) := Road.wi64 _ _ (by omega) (by omega) (by omega)
      clear hI hR hRl hi hq hM hN hN2 hh hnode hm ho hp hu ht hlD hzj hz64 hz hj
      go_wp2_with fail
      refine start_ (n := 13) (S := fun w' => w'.heap[g]? = some (.cells (cellsN b bs l.p r.p h0) 88 (0, 0))) (ds := [12]) #[false, false, false, false, false, false, false, false, false, false, false, false, false] (by kernel_rfl) rfl rfl HN3.out (fun hHeld => ?_)
      refine take_ (i := 0) (N := some 22) (v := ?_) (a' := ?_) #[true, false, false, false, false, false, false, false, false, false, false, false, false] rfl rfl (by kernel_rfl) (fun _ _ _ h => h) (Or.inl ⟨by rfl, ?_⟩) hHeld ?_ ?_
      rotate_left
      · intro w' hS'
        have hle := load_le LE w'
        go_simp
        with_reducible rfl
      rotate_left
      · simp only [Act.put, List.setIfInBounds_toArray, List.set_cons_zero, List.set_cons_succ, i64_w, i32_w]
        rfl
      refine pure_ (i := 1) (N := some 23) (v := ?_) (a' := ?_) #[true, true, false, false, false, false, false, false, false, false, false, false, false] rfl rfl (by kernel_rfl) (fun _ _ _ h => h) (Or.inl ⟨by rfl, ?_⟩) ?_ ?_
      rotate_left
      · intro w'
        go_simp
        with_reducible rfl
      rotate_left
      · simp only [Act.put, List.setIfInBounds_toArray, List.set_cons_zero, List.set_cons_succ, i64_w, i32_w]
        rfl
      refine pure_ (i := 2) (N := some 24) (v := ?_) (a' := ?_) #[true, true, true, false, false, false, false, false, false, false, false, false, false] rfl rfl (by kernel_rfl) (fun _ _ _ h => h) (Or.inl ⟨by rfl, ?_⟩) ?_ ?_
      rotate_left
      · intro w'
        go_simp
        with_reducible rfl
      rotate_left
      · simp only [Act.put, List.setIfInBounds_toArray, List.set_cons_zero, List.set_cons_succ, i64_w, i32_w]
        rfl
      refine pure_ (i := 3) (N := some 25) (v := ?_) (a' := ?_) #[true, true, true, true, false, false, false, false, false, false, false, false, false] rfl rfl (by kernel_rfl) (fun _ _ _ h => h) (Or.inl ⟨by rfl, ?_⟩) ?_ ?_
      rotate_left
      · intro w'
        go_simp
        with_reducible rfl
      rotate_left
      · simp only [Act.put, List.setIfInBounds_toArray, List.set_cons_zero, List.set_cons_succ, i64_w, i32_w]
        rfl
      refine pure_ (i := 4) (N := some 26) (v := ?_) (a' := ?_) #[true, true, true, true, true, false, false, false, false, false, false, false, false] rfl rfl (by kernel_rfl) (fun _ _ _ h => h) (Or.inl ⟨by rfl, ?_⟩) ?_ ?_
      rotate_left
      · intro w'
        go_simp
        with_reducible rfl
      rotate_left
      · simp only [Act.put, List.setIfInBounds_toArray, List.set_cons_zero, List.set_cons_succ, i64_w, i32_w]
        rfl
      refine pure_ (i := 5) (N := some 27) (v := ?_) (a' := ?_) #[true, true, true, true, true, true, false, false, false, false, false, false, false] rfl rfl (by kernel_rfl) (fun _ _ _ h => h) (Or.inl ⟨by rfl, ?_⟩) ?_ ?_
      rotate_left
      · intro w'
        go_simp
        with_reducible rfl
      rotate_left
      · simp only [Act.put, List.setIfInBounds_toArray, List.set_cons_zero, List.set_cons_succ, i64_w, i32_w]
        rfl
      refine pure_ (i := 6) (N := some 28) (v := ?_) (a' := ?_) #[true, true, true, true, true, true, true, false, false, false, false, false, false] rfl rfl (by kernel_rfl) (fun _ _ _ h => h) (Or.inl ⟨by rfl, ?_⟩) ?_ ?_
      rotate_left
      · intro w'
        go_simp
        with_reducible rfl
      rotate_left
      · simp only [Act.put, List.setIfInBounds_toArray, List.set_cons_zero, List.set_cons_succ, i64_w, i32_w]
        rfl
      refine pure_ (i := 7) (N := some 29) (v := ?_) (a' := ?_) #[true, true, true, true, true, true, true, true, false, false, false, false, false] rfl rfl (by kernel_rfl) (fun _ _ _ h => h) (Or.inl ⟨by rfl, ?_⟩) ?_ ?_
      rotate_left
      · intro w'
        go_simp
        with_reducible rfl
      rotate_left
      · simp only [Act.put, List.setIfInBounds_toArray, List.set_cons_zero, List.set_cons_succ, i64_w, i32_w]
        rfl
      refine pure_ (i := 8) (N := some 30) (v := ?_) (a' := ?_) #[true, true, true, true, true, true, true, true, true, false, false, false, false] rfl rfl (by kernel_rfl) (fun _ _ _ h => h) (Or.inl ⟨by rfl, ?_⟩) ?_ ?_
      rotate_left
      · intro w'
        go_simp
        with_reducible rfl
      rotate_left
      · simp only [Act.put, List.setIfInBounds_toArray, List.set_cons_zero, List.set_cons_succ, i64_w, i32_w]
        rfl
      refine pure_ (i := 9) (N := some 31) (v := ?_) (a' := ?_) #[true, true, true, true, true, true, true, true, true, true, false, false, false] rfl rfl (by kernel_rfl) (fun _ _ _ h => h) (Or.inl ⟨by rfl, ?_⟩) ?_ ?_
      rotate_left
      · intro w'
        go_simp
        with_reducible rfl
      rotate_left
      · simp only [Act.put, List.setIfInBounds_toArray, List.set_cons_zero, List.set_cons_succ, i64_w, i32_w]
        rfl
      refine pure_ (i := 10) (N := some 32) (v := ?_) (a' := ?_) #[true, true, true, true, true, true, true, true, true, true, true, false, false] rfl rfl (by kernel_rfl) (fun _ _ _ h => h) (Or.inl ⟨by rfl, ?_⟩) ?_ ?_
      rotate_left
      · intro w'
        go_simp
        with_reducible rfl
      rotate_left
      · simp only [Act.put, List.setIfInBounds_toArray, List.set_cons_zero, List.set_cons_succ, i64_w, i32_w]
        rfl
      refine take_ (i := 11) (N := some 33) (v := ?_) (a' := ?_) #[true, true, true, true, true, true, true, true, true, true, true, true, false] rfl rfl (by kernel_rfl) (fun _ _ _ h => h) (Or.inl ⟨by rfl, ?_⟩) hHeld ?_ ?_
      rotate_left
      · intro w' hS'
        have cz := nd_bit hS' HN.out.1 j HJ2.out.1
        rw [← HJ2.out.2] at cz
        go_simp
        with_reducible rfl
      rotate_left
      · simp only [Act.put, List.setIfInBounds_toArray, List.set_cons_zero, List.set_cons_succ, i64_w, i32_w]
        rfl
      refine last_ (i := 12) (N := some 34) #[true, true, true, true, true, true, true, true, true, true, true, true, true] rfl rfl (by kernel_rfl) (by decide) (fun K hK => ?_)
      refine goes_ Tryd.func61 (by kernel_rfl) rfl #[.agg #[], .slice (some ⟨BB, p, none⟩) u t, .int .u64 (z : Int)] (by rfl) rfl rfl (by simp only [List.map_toArray, List.map_cons, List.map_nil]; rfl) ?_
      refine (HP5.out).mono ?_
      rintro e w5 ⟨rfl, row5, c5⟩
      refine ⟨_, rfl, ?_⟩
      refine hK.out _ _ ?_
      clear hK K
      refine done_ (by kernel_rfl) ?_
      obtain ⟨hm, ho, hp, hu, ht, hlD, hzj⟩ := HQ.out
      rw [← hlD, put_at (by rw [List.length_drop]; have := HB.out.2.2.1; have := HB.out.2.2.2.2.2.2.1; have := HJ2.out.1; omega)] at row5
      have H5 := Aside0.mk (And.intro row5 (HX.out.2.trans ((Chg_drew wr).trans c5 (H := [BB]) (fun x h => absurd h (by simp)) (fun x h _ => h)) (fun x h => h) (fun x h _ => h)))
      clear row5 c5 hm ho hp hu ht hlD hzj
      go_wp2_with fail
      go_roundw
      case rel =>
        obtain ⟨hm, ho, hp, hu, ht, hlD, hzj⟩ := HQ.out
        refine ⟨j + 1, ?_, ⟨HJ2.out.1⟩, ⟨?_, H5.out.2⟩⟩
        · rw [Road.w64 ((j : Int) + 1) ((j + 1 : Nat) : Int) (by omega) (by omega) (by have := HJ2.out.1; omega)]
        · have := H5.out.1
          rw [List.drop_drop] at this
          rw [List.take_succ_eq_append_getElem hjb, List.flatMap_append, List.flatMap_cons, List.flatMap_nil, List.append_nil, ← hzj, ← List.append_assoc (leN 8 b), ← List.append_assoc D]
          rw [show 8 + 8 * (j + 1) = 8 + 8 * j + 8 by omega]
          exact this
      case measure =>
        rw [Road.w64 ((j : Int) + 1) ((j + 1 : Nat) : Int) (by omega) (by omega) (by have := HJ2.out.1; omega)]
        exact Road.leftOf_lt HJ2.out.1
    · obtain rfl : j = 32 := by have := HJ.out; omega
      have hrow := HX.out.1
      rw [List.take_of_length_le (by rw [HN.out.1]; exact Nat.le_refl _)] at hrow
      obtain ⟨p, hp⟩ : ∃ p, p = i + 264 := ⟨_, rfl⟩
      obtain ⟨t, ht⟩ : ∃ t, t = M - 264 := ⟨_, rfl⟩
      obtain ⟨hH, hHe⟩ : ∃ hH : Nat, (hH : Int) = h0 := ⟨h0.toNat, by omega⟩
      obtain ⟨hh', hhe⟩ : ∃ hh' : Nat, hh' = hH := ⟨_, rfl⟩
      have s3 : ∀ W, (Instr.slice 47 (.slice (some ⟨BB, i, none⟩) 266 M) (some (.int .i64 264)) none none).run Tryd.prog W = .ok (.slice (some ⟨BB, p, none⟩) 2 t) W := fun W => by
        have := slice_l8 BB i 266 M 264 (by omega) (by omega) W
        rw [hp, ht]
        exact this
      have hlD : (D ++ (leN 8 b ++ bs.flatMap (leN 8))).length = p := by
        rw [List.length_append, List.length_append, leN_len, flat_len, HN.out.1]
        omega
      have HP7 := Aside0.mk (put2_calls BB p 2 t hh' _ wr.drew (by omega) (by decide) hrow (by rw [List.length_append, hlD, List.length_drop]; omega))
      have HN4 := Aside0.mk hnode
      have u1 : IntKind.u16.wrap h0 = (hh' : Int) := by
        rw [← hHe, hhe]
        show (hH : Int) % 65536 = (hH : Int)
        omega
      have HQ := Aside0.mk (And.intro hp (And.intro ht (And.intro hlD (And.intro hHe hhe))))
      clear hI hR hRl hi hq hM hN hN2 hh hnode hp ht hlD hHe hhe hrow hj
      go_wp2_with fail
      refine start_ (n := 9) (S := fun w' => w'.heap[g]? = some (.cells (cellsN b bs l.p r.p h0) 88 (0, 0))) (ds := [8]) #[false, false, false, false, false, false, false, false, false] (by kernel_rfl) rfl rfl HN4.out (fun hHeld => ?_)
      refine take_ (i := 0) (N := some 36) (v := ?_) (a' := ?_) #[true, false, false, false, false, false, false, false, false] rfl rfl (by kernel_rfl) (fun _ _ _ h => h) (Or.inl ⟨by rfl, ?_⟩) hHeld ?_ ?_
      rotate_left
      · intro w' hS'
        have hle := load_le LE w'
        go_simp
        with_reducible rfl
      rotate_left
      · simp only [Act.put, List.setIfInBounds_toArray, List.set_cons_zero, List.set_cons_succ, i64_w, i32_w]
        rfl
      refine pure_ (i := 1) (N := some 37) (v := ?_) (a' := ?_) #[true, true, false, false, false, false, false, false, false] rfl rfl (by kernel_rfl) (fun _ _ _ h => h) (Or.inl ⟨by rfl, ?_⟩) ?_ ?_
      rotate_left
      · intro w'
        go_simp
        with_reducible rfl
      rotate_left
      · simp only [Act.put, List.setIfInBounds_toArray, List.set_cons_zero, List.set_cons_succ, i64_w, i32_w]
        rfl
      refine pure_ (i := 2) (N := some 38) (v := ?_) (a' := ?_) #[true, true, true, false, false, false, false, false, false] rfl rfl (by kernel_rfl) (fun _ _ _ h => h) (Or.inl ⟨by rfl, ?_⟩) ?_ ?_
      rotate_left
      · intro w'
        go_simp
        with_reducible rfl
      rotate_left
      · simp only [Act.put, List.setIfInBounds_toArray, List.set_cons_zero, List.set_cons_succ, i64_w, i32_w]
        rfl
      refine pure_ (i := 3) (N := some 39) (v := ?_) (a' := ?_) #[true, true, true, true, false, false, false, false, false] rfl rfl (by kernel_rfl) (fun _ _ _ h => h) (Or.inl ⟨by rfl, ?_⟩) ?_ ?_
      rotate_left
      · intro w'
        go_simp
        with_reducible rfl
      rotate_left
      · simp only [Act.put, List.setIfInBounds_toArray, List.set_cons_zero, List.set_cons_succ, i64_w, i32_w]
        rfl
      refine pure_ (i := 4) (N := some 40) (v := ?_) (a' := ?_) #[true, true, true, true, true, false, false, false, false] rfl rfl (by kernel_rfl) (fun _ _ _ h => h) (Or.inl ⟨by rfl, ?_⟩) ?_ ?_
      rotate_left
      · intro w'
        go_simp
        with_reducible rfl
      rotate_left
      · simp only [Act.put, List.setIfInBounds_toArray, List.set_cons_zero, List.set_cons_succ, i64_w, i32_w]
        rfl
      refine pure_ (i := 5) (N := some 41) (v := ?_) (a' := ?_) #[true, true, true, true, true, true, false, false, false] rfl rfl (by kernel_rfl) (fun _ _ _ h => h) (Or.inl ⟨by rfl, ?_⟩) ?_ ?_
      rotate_left
      · intro w'
        go_simp
        with_reducible rfl
      rotate_left
      · simp only [Act.put, List.setIfInBounds_toArray, List.set_cons_zero, List.set_cons_succ, i64_w, i32_w]
        rfl
      refine take_ (i := 6) (N := some 42) (v := ?_) (a' := ?_) #[true, true, true, true, true, true, true, false, false] rfl rfl (by kernel_rfl) (fun _ _ _ h => h) (Or.inl ⟨by rfl, ?_⟩) hHeld ?_ ?_
      rotate_left
      · intro w' hS'
        have ch := nd_h hS' HN.out.1
        go_simp
        with_reducible rfl
      rotate_left
      · simp only [Act.put, List.setIfInBounds_toArray, List.set_cons_zero, List.set_cons_succ, i64_w, i32_w]
        rfl
      refine pure_ (i := 7) (N := some 43) (v := ?_) (a' := ?_) #[true, true, true, true, true, true, true, true, false] rfl rfl (by kernel_rfl) (fun _ _ _ h => h) (Or.inl ⟨by rfl, ?_⟩) ?_ ?_
      rotate_left
      · intro w'
        go_simp
        with_reducible rfl
      rotate_left
      · simp only [Act.put, List.setIfInBounds_toArray, List.set_cons_zero, List.set_cons_succ, i64_w, i32_w]
        rfl
      refine last_ (i := 8) (N := some 44) #[true, true, true, true, true, true, true, true, true] rfl rfl (by kernel_rfl) (by decide) (fun K hK => ?_)
      refine goes_ Tryd.func62 (by kernel_rfl) rfl #[.agg #[], .slice (some ⟨BB, p, none⟩) 2 t, .int .u16 (hh' : Int)] (by rfl) rfl rfl (by simp only [List.map_toArray, List.map_cons, List.map_nil]; rfl) ?_
      refine (HP7.out).mono ?_
      rintro e w7 ⟨rfl, row7, c7⟩
      refine ⟨_, rfl, ?_⟩
      refine hK.out _ _ ?_
      clear hK K
      refine done_ (by kernel_rfl) ?_
      obtain ⟨hp, ht, hlD, hHe, hhe⟩ := HQ.out
      obtain ⟨hI, hR, hRl, hi, hq, hM, hN, hN2, hh⟩ := HB.out
      rw [← hlD, put_at (by rw [List.length_drop]; omega)] at row7
      have c07 : Chg [BB] w w7 := HX.out.2.trans ((Chg_drew wr).trans c7 (H := [BB]) (fun x h => absurd h (by simp)) (fun x h _ => h)) (fun x h => h) (fun x h _ => h)
      have ix : w7.heap[IX]? = some (.cells #[.int .i64 (D.length : Nat)] 3 (0, 0)) := (c07.keep IX (Array.getElem?_eq_some_iff.1 hI.idx).1 (by simp; exact HNE.out.2.2.2.2)).trans hI.idx
      have bx := (c07.keep BF (Array.getElem?_eq_some_iff.1 hI.buf).1 (by simp; exact HNE.out.2.2.1)).trans hI.buf
      have c2 : w7.cell? ⟨IX, 0, none⟩ = some (.int .i64 (i : Nat)) := by rw [hi]; exact cell_of_row w7 IX 0 _ _ _ ix
      have f2 : w7.frozen? ⟨IX, 0, none⟩ = false := by simp [World.frozen?, ix]
      have w1 : wrap64 ((i : Int) + 266) = (q : Int) := Road.w64 _ _ (by omega) (by omega) (by omega)
      have E := setCell_eq_setRow w7 IX 0 _ 3 (0, 0) (.int .i64 (q : Int)) ix
      have H7 := Aside0.mk (And.intro row7 (And.intro c07 (And.intro ix (And.intro bx E))))
      clear row7 c7 c07 ix bx E hp ht hlD hHe hhe hI hR hRl hi hq hM hN hN2 hh
      go_wp2_with fail
      refine bodyPost_end (results_none rfl _ _ _) rfl ?_
      obtain ⟨row7, c07, ix, bx, E⟩ := H7.out
      obtain ⟨hp, ht, hlD, hHe, hhe⟩ := HQ.out
      obtain ⟨hI, hR, hRl, hi, hq, hM, hN, hN2, hh⟩ := HB.out
      have e2 : D ++ recN b bs h0 = D ++ (leN 8 b ++ bs.flatMap (leN 8)) ++ leN 2 hh' := by
        rw [recN, show h0.toNat = hh' by omega]
        simp only [List.append_assoc]
      have e3 : (D ++ recN b bs h0).length = q := by rw [List.length_append, recN_len HN.out.1]; omega
      rw [E]
      refine ⟨rfl, ⟨?_, ?_, Rr.drop 266, ?_, ?_⟩, ?_⟩
      · rw [setRow_other _ _ _ _ HNE.out.2.2.2.1]; exact bx
      · rw [e3]; exact setRow_heap _ _ _ _ _ _ ix
      · rw [rowB, setRow_other _ _ _ _ HNE.out.2.2.2.2.symm, e2]
        rw [List.drop_drop] at row7
        exact row7
      · rw [e3, List.length_drop]; omega
      · exact c07.trans (Chg.row w7 IX _) (fun x h => by rw [List.mem_singleton.1 h]; simp) (fun x h _ => by rw [List.mem_singleton.1 h]; simp)
theorem slice_h8 (B n : Nat) (W : World) : (Instr.slice 47 (.slice (some ⟨B, 0, none⟩) n n) none (some (.int .i64 (n : Int))) none).run Tryd.prog W = .ok (.slice (some ⟨B, 0, none⟩) n n) W := by
  obtain ⟨i0, hi0, hz0⟩ := Option.map_eq_some_iff.1 (show (Tryd.prog.info? 5).map (fun i => (i.zero, i.size, i.bytes)) = some (some (.int .u8 0), 1, 1) by kernel_rfl)
  have hz1 : i0.size = 1 := congrArg (fun x => x.2.1) hz0
  have hel : (Tryd.prog).elem 47 = 5 := by simp [Program.elem, Tryd.underlying47]
  have hu : (Tryd.prog).underlying 47 = some (.slice ((Tryd.prog).elem 47)) := by rw [hel]; exact Tryd.underlying47
  rw [run_slice_h W 47 (some ⟨B, 0, none⟩) n n hu .i64 (n : Int) (by omega) (by omega), hel]
  simp [sizeOf, typeInfo, hi0, hz1, sliced, Result.andThen, Addr.add]
theorem row_R {base G : Nat} {xs : List Nat} {w : World} (h : rowB w G xs) (hb : base ≤ G) (hl : xs.length ≤ 100000000) : Kd.R (Kd.int .u8) 5 w base (fun _ => True) (.slice (some ⟨G, 0, none⟩) xs.length xs.length) (xs.map (fun n : Nat => (n : Int))) := by
  have e : u8s xs = encs (Value.int .u8) (xs.map (fun n : Nat => (n : Int))) := by simp [u8s, encs]
  refine ⟨fun _ _ => trivial, u8s xs, ?_, ?_⟩
  · have hn : (xs.map (fun n : Nat => (n : Int))).length = xs.length := List.length_map _
    rw [hn]
    exact ⟨by rw [u8s_len]; exact (Nat.mul_one _).symm, .inr ⟨G, xs.length, (u8s xs).toArray, rfl, hb, h, Nat.le_refl _, by unfold maxLen; omega, by simp [u8s_len, Kd.int, Kd.scalar], by show (u8s xs).take (xs.length * 1) = u8s xs; rw [Nat.mul_one, ← u8s_len xs, List.take_length]⟩⟩
  · rw [e]
    exact Kd.reps_scalar (enc := Value.int .u8) _
theorem set_row' {w : World} {G : Nat} {xs : List Nat} (hG : rowB w G xs) (j v : Nat) (hj : j < xs.length) : rowB (w.setCell ⟨G, j, none⟩ (.int .u8 (v : Int))) G (xs.set j v) ∧ Chg [G] w (w.setCell ⟨G, j, none⟩ (.int .u8 (v : Int))) := by
  rw [setCell_eq_setRow w G j _ _ _ _ hG]
  refine ⟨?_, Chg.row _ _ _⟩
  rw [rowB, setRow_heap w G _ _ _ _ hG]
  congr 2
  simp [u8s, List.map_set]
theorem set_row {w : World} {G : Nat} {xs : List Nat} (hG : rowB w G xs) (j v : Nat) (hj : j < xs.length) : rowB ((w.setCell ⟨G, j, none⟩ (.int .u8 (v : Int))).drew) G (xs.set j v) ∧ Chg [G] w ((w.setCell ⟨G, j, none⟩ (.int .u8 (v : Int))).drew) := by
  obtain ⟨h1, h2⟩ := set_row' hG j v hj
  exact ⟨h1, h2.trans (Chg_drew _) (fun x h => h) (fun x h _ => absurd h (by simp))⟩
theorem make8 (N : Nat) (hN : N ≤ 100000000) (w : World) : (Instr.makeSlice 47 (.int .i64 (N : Int)) (.int .i64 (N : Int))).run Tryd.prog w = .ok (.slice (some ⟨w.heap.size, 0, none⟩) N N) (w.alloc (.cells (u8s (List.replicate N 0)).toArray 5 (0, 0))) := by
  obtain ⟨i0, hi0, hz0⟩ := Option.map_eq_some_iff.1 (show (Tryd.prog.info? 5).map (fun i => (i.zero, i.size, i.bytes)) = some (some (.int .u8 0), 1, 1) by kernel_rfl)
  have h0 : i0.zero = some (.int .u8 0) := congrArg (fun x => x.1) hz0
  have h1 : i0.size = 1 := congrArg (fun x => x.2.1) hz0
  have h2 : i0.bytes = 1 := congrArg (fun x => x.2.2) hz0
  have := run_make (P := Tryd.prog) w 47 5 i0 (.int .u8 0) Tryd.underlying47 hi0 h0 .i64 .i64 (N : Int) (N : Int) (by omega) (by omega) (by rw [h2]; omega) (by omega)
  rw [this, h1, Int.toNat_natCast, Nat.mul_one]
  have e : madeCells (Value.int .u8 0).cells N = (u8s (List.replicate N 0)).toArray := by
    apply Array.toList_inj.1
    rw [show (Value.int .u8 0).cells = #[Value.int .u8 0] from rfl, toList_madeCells_one]
    simp [u8s]
  rw [e]
theorem below_two {b : Nat} {u v w : World} (h : Below b u v) (k : Below b v w) : Below b u w := ⟨k.os.trans h.os, k.tape.trans h.tape, k.output.trans h.output, Nat.le_trans h.size k.size, fun i hi => (k.block i hi).trans (h.block i hi)⟩
theorem below_cut {b c : Nat} {w w' : World} (h : Below b w w') (hc : c ≤ b) : Below c w w' := ⟨h.os, h.tape, h.output, h.size, fun k hk => h.block k (Nat.lt_of_lt_of_le hk hc)⟩
theorem exec_load_row {P : Program} {oi : Oper} {a : Act} {w : World} (ty : TypeId) (x : Operand) (ho : oi.op = .load ty x) (b : Nat) (hx : a.eval x = .pointer (some ⟨b, 0, none⟩)) (cs : List Value) (d : TypeDesc) (hc : w.rangeAt b 0 cs)
    (hu : P.underlying ty = some d) (hd : d.isRow = true) (hi : (P.info? ty).map (·.size) = some cs.length) : (execOp a.eval oi).run P w = .ok (.value (.agg cs.toArray)) w := by
  unfold execOp
  simp only [ho, hx, Instr.loadAt, Instr.sureAddr, Sem.run_bind, Sem.run_pure, Result.andThen_ok, run_loadVar_mid w b 0 ty cs d hc hu hd hi]
theorem row_all {w : World} {b T : Nat} {cs : List Value} (h : w.heap[b]? = some (.cells cs.toArray T (0, 0))) : w.rangeAt b 0 cs := fun j v hv => by
  rw [cell_of_row w b (0 + j) _ _ _ h, Nat.zero_add]
  simpa using hv
def preE : Tr → List Nat
  | .nil => []
  | .node _ b bs l r h => recN b bs h ++ (preE l ++ preE r)
def fitE : Tr → Prop
  | .nil => True
  | .node _ b bs l r h => (b + 4096 ≤ 18446744073709551616 ∧ 0 ≤ h ∧ h < 65536) ∧ (∀ z ∈ bs, z < 18446744073709551616) ∧ fitE l ∧ fitE r
theorem fitE_of : ∀ t : Tr, t.fit → t.good → t.sz ≤ 10000 → fitE t
  | .nil, _, _, _ => trivial
  | .node g b bs l r h, hf, hg, hs => by
    have hh := ht_sz _ hg
    rw [ht_nd] at hh
    have hs' : l.sz + r.sz + 1 ≤ 10000 := hs
    exact ⟨⟨hf.1, hh.1, by omega⟩, hf.2.1, fitE_of l hf.2.2.1 hg.2.1 (by omega), fitE_of r hf.2.2.2 hg.2.2 (by omega)⟩
def lenE : Tr → Prop
  | .nil => True
  | .node _ _ bs l r _ => bs.length = 32 ∧ lenE l ∧ lenE r
theorem lenE_of {w : World} : ∀ t : Tr, t.at w → lenE t
  | .nil, _ => trivial
  | .node _ _ _ l r _, h => ⟨h.1, lenE_of l h.2.2.1, lenE_of r h.2.2.2⟩
theorem preE_len : ∀ t : Tr, lenE t → (preE t).length = 266 * t.sz
  | .nil, _ => rfl
  | .node g b bs l r h, hl => by
    rw [preE, List.length_append, List.length_append, recN_len hl.1, preE_len l hl.2.1, preE_len r hl.2.2, Tr.sz]
    omega
theorem nodesE_calls (X : Nat) (R : Value) (sz nn : Int) (ch : Bool) (w : World) (h : w.heap[X]? = some (.cells (ssC R sz nn ch) 84 (0, 0))) :
    Calls Tryd.prog 34 #[.pointer (some ⟨X, 0, none⟩)] w fun e w' => e = .returned (.int .i64 nn) ∧ w' = w := by
  have c2 : w.cell? ⟨X, 2, none⟩ = some (.int .i64 nn) := cell_of_row w X 2 _ _ _ h
  clear h
  go_enter Tryd.func34, Tryd.ntmps34
  go_wp2_with fail
  go_ret
  exact ⟨rfl, rfl⟩
theorem encLen_calls (R : Value) (sz : Int) (nn : Nat) (ch : Bool) (w : World) (hn : nn ≤ 20000) :
    Calls Tryd.prog 45 #[.agg (ssC R sz nn ch)] w fun e w' => e = .returned (.int .i64 ((10 + 266 * nn : Nat) : Int)) ∧ Below w.heap.size w w' := by
  obtain ⟨m, hm⟩ : ∃ m, m = 266 * nn := ⟨_, rfl⟩
  obtain ⟨q, hq⟩ : ∃ q, q = 10 + m := ⟨_, rfl⟩
  have w1 : wrap64 ((nn : Int) * 266) = (m : Int) := Road.w64 _ _ (by omega) (by omega) (by omega)
  have w2 : wrap64 (10 + (m : Int)) = (q : Int) := Road.w64 _ _ (by omega) (by omega) (by omega)
  rw [← hm, ← hq]
  have HN := Aside0.mk (nodesE_calls w.heap.size R sz nn ch (w.alloc (.cells (ssC R sz nn ch) 84 (0, 0))) (heap_alloc_new w _))
  have HW2 := Aside0.mk w2
  clear hn hm hq w2
  go_enter Tryd.func45, Tryd.ntmps45
  go_wp2_with fail
  refine HN.out.mono ?_
  rintro e w1 ⟨rfl, rfl⟩
  go_wp2_with fail
  go_ret
  refine ⟨?_, below_alloc (Below.refl _ _) _⟩
  rw [← HW2.out]
  rfl
set_option maxHeartbeats 16000000 in
set_option maxRecDepth 100000 in
theorem nodeIterE_calls (N base : Nat) (G : List Nat) (I : List Nat → World → Prop) (BF IX LE : Nat)
    (hF : ∀ (L : List Nat) (g b : Nat) (bs : List Nat) (l r : Tr) (h : Int) (w : World), I L w → (Tr.node g b bs l r h).at w → fitE (Tr.node g b bs l r h) → TabAt 3 Lib.deBruijn64tab w → g < base ∧ g ∉ G → L.length + (recN b bs h).length ≤ N → Calls Tryd.prog 60 #[.pointer (some ⟨g, 0, none⟩), .pointer (some ⟨BF, 0, none⟩), .pointer (some ⟨IX, 0, none⟩), .pointer (some ⟨LE, 0, none⟩)] w fun e w' => e = .returned (.tuple #[]) ∧ I (L ++ recN b bs h) w' ∧ Low base G w w')
    (hgT : 3 < base ∧ 3 ∉ G) : ∀ (t : Tr) (L : List Nat) (w : World), t.at w → fitE t → I L w → TabAt 3 Lib.deBruijn64tab w → (∀ x ∈ t.bl, x < base ∧ x ∉ G) → L.length + (preE t).length ≤ N →
    Calls Tryd.prog 59 #[t.p, .func (.func 60) #[] #[.pointer (some ⟨BF, 0, none⟩), .pointer (some ⟨IX, 0, none⟩), .pointer (some ⟨LE, 0, none⟩)]] w fun e w' => e = .returned (.tuple #[]) ∧ I (L ++ preE t) w' ∧ Low base G w w' := by
  intro t
  induction t with
  | nil =>
    intro L w ha hf hI hT hd hN
    show Calls Tryd.prog 59 #[.pointer none, .func (.func 60) #[] #[.pointer (some ⟨BF, 0, none⟩), .pointer (some ⟨IX, 0, none⟩), .pointer (some ⟨LE, 0, none⟩)]] w _
    have HI := Aside0.mk hI
    clear ha hf hI hT hd hF hgT hN
    go_enter Tryd.func59, Tryd.ntmps59
    go_wp2_with fail
    refine bodyPost_ret (results_none rfl _ _ _) rfl ?_
    exact ⟨rfl, by rw [preE, List.append_nil]; exact HI.out, Low.refl _ _ _⟩
  | node g b bs l r h0 ihl ihr =>
    intro L w ha hf hI hT hd hN
    show Calls Tryd.prog 59 #[.pointer (some ⟨g, 0, none⟩), .func (.func 60) #[] #[.pointer (some ⟨BF, 0, none⟩), .pointer (some ⟨IX, 0, none⟩), .pointer (some ⟨LE, 0, none⟩)]] w _
    rw [preE, List.length_append, List.length_append] at hN
    have hdl : ∀ x ∈ l.bl, x < base ∧ x ∉ G := fun x hx => hd x (List.mem_cons_of_mem _ (List.mem_append_left _ hx))
    have hdr : ∀ x ∈ r.bl, x < base ∧ x ∉ G := fun x hx => hd x (List.mem_cons_of_mem _ (List.mem_append_right _ hx))
    have HC := Aside0.mk (hF L g b bs l r h0 w hI ha hf hT (hd g List.mem_cons_self) (by omega))
    have HH := Aside0.mk (And.intro ha (And.intro hf (And.intro hT (And.intro hd (And.intro hdl (And.intro hdr (And.intro hgT hN)))))))
    clear ha hf hI hT hd hdl hdr hgT hN hF
    go_enter Tryd.func59, Tryd.ntmps59
    go_wp2_with fail
    refine HC.out.mono ?_
    rintro e w1 ⟨rfl, i1, l1⟩
    obtain ⟨ha, hf, hT, hd, hdl, hdr, hgT, hN⟩ := HH.out
    have a1 := at_low l1 _ ha hd
    have kl : w1.cell? ⟨g, 33, none⟩ = some (.pointer l.pp) := nd_l a1.2.1 a1.1
    have HC1 := Aside0.mk (ihl (L ++ recN b bs h0) w1 a1.2.2.1 hf.2.2.1 i1 (tab_low l1 hgT.1 hgT.2 hT) hdl (by rw [List.length_append]; omega))
    have H1 := Aside0.mk (And.intro a1 l1)
    clear ha hf hT hd hdl hdr hgT hN a1 i1 l1 ihl HC
    go_wp2_with fail
    refine HC1.out.mono ?_
    rintro e w2 ⟨rfl, i2, l2⟩
    obtain ⟨ha, hf, hT, hd, hdl, hdr, hgT, hN⟩ := HH.out
    have l02 := H1.out.2.trans l2
    have a2 := at_low l02 _ ha hd
    have kr : w2.cell? ⟨g, 34, none⟩ = some (.pointer r.pp) := nd_r a2.2.1 a2.1
    have HC2 := Aside0.mk (ihr (L ++ recN b bs h0 ++ preE l) w2 a2.2.2.2 hf.2.2.2 i2 (tab_low l02 hgT.1 hgT.2 hT) hdr (by rw [List.length_append, List.length_append]; omega))
    have H2 := Aside0.mk l02
    clear ha hf hT hd hdl hdr hgT hN a2 i2 l2 l02 ihr HC1
    go_wp2_with fail
    refine HC2.out.mono ?_
    rintro e w3 ⟨rfl, i3, l3⟩
    have H3 := Aside0.mk (And.intro i3 l3)
    clear i3 l3
    go_wp2_with fail
    refine bodyPost_end (results_none rfl _ _ _) rfl ?_
    refine ⟨rfl, ?_, H2.out.trans H3.out.2⟩
    have := H3.out.1
    rw [List.append_assoc, List.append_assoc] at this
    exact this
set_option maxHeartbeats 16000000 in
set_option maxRecDepth 100000 in
theorem Encode_calls (SS : Nat) (t : Tr) (L : List Nat) (w : World) (h : SetAt w SS t L) (hl : L.length ≤ 9000) (hT : TabAt 3 Lib.deBruijn64tab w) :
    Calls Tryd.prog 44 #[.agg (ssC t.p L.length t.sz false), .slice none 0 0] w fun e w' => ∃ v, e = .returned v ∧ Kd.R (Kd.int .u8) 5 w' w.heap.size (fun _ => True) v ((([22, 2] ++ (leN 4 t.sz ++ (leN 4 L.length ++ preE t))).map (fun n : Nat => (n : Int)))) ∧ Below w.heap.size w w' := by
  have HS := Aside0.mk (And.intro h (And.intro hl hT))
  clear h hl hT
  go_enter Tryd.func44, Tryd.ntmps44
  go_wp2_with fail
  generalize hW1 : (w.alloc (.cells (ssC t.p L.length t.sz false) 84 (0, 0))).alloc (.cells #[.slice none 0 0] 47 (0, 0)) = W1
  have b1 : Below w.heap.size w W1 := by rw [← hW1]; exact below_alloc (below_alloc (Below.refl _ _) _) _
  have z1 : W1.heap.size = w.heap.size + 2 := by rw [← hW1]; simp
  have qx : W1.heap[w.heap.size]? = some (.cells (ssC t.p L.length t.sz false) 84 (0, 0)) := by
    rw [← hW1, Below.heap_alloc _ _ _ (by simp)]
    exact heap_alloc_new w _
  have qf : W1.heap[w.heap.size + 1]? = some (.cells #[.slice none 0 0] 47 (0, 0)) := by
    have := heap_alloc_new (w.alloc (.cells (ssC t.p L.length t.sz false) 84 (0, 0))) (.cells #[.slice none 0 0] 47 (0, 0))
    rw [← hW1]
    simpa using this
  have hsz := HS.out.1.rep.sz
  obtain ⟨N, hN⟩ : ∃ N, N = 10 + 266 * t.sz := ⟨_, rfl⟩
  obtain ⟨X0, hX0⟩ : ∃ X0, X0 = w.heap.size := ⟨_, rfl⟩
  obtain ⟨BF, hBF⟩ : ∃ BF, BF = w.heap.size + 1 := ⟨_, rfl⟩
  rw [← hX0] at qx
  rw [← hBF] at qf
  have HN := Aside0.mk (nodesE_calls X0 t.p L.length t.sz false W1.drew qx)
  have hE := encLen_calls t.p L.length t.sz false W1.drew (by have := HS.out.2.1; omega)
  rw [← hN] at hE
  have HE := Aside0.mk hE
  have HX := Aside0.mk qx
  have H1 := Aside0.mk (And.intro b1 (And.intro z1 (And.intro qx (And.intro qf (And.intro hN (And.intro hX0 (And.intro hBF hsz)))))))
  rw [← hBF, ← hX0]
  clear hW1 b1 z1 qx qf hN hX0 hBF hsz hE
  refine start_ (n := 5) (S := fun w' => w'.heap[X0]? = some (.cells (ssC t.p L.length t.sz false) 84 (0, 0))) (ds := []) #[false, false, false, false, false] (by kernel_rfl) rfl rfl HX.out (fun hHeld => ?_)
  refine take_ (i := 1) (N := some 10) (v := ?_) (a' := ?_) #[false, true, false, false, false] rfl rfl (by kernel_rfl) (fun _ _ _ h => h) (Or.inl ⟨by rfl, ?_⟩) hHeld ?_ ?_
  rotate_left
  · intro w' hS'
    refine exec_load_row 84 (.tmp 2) ?_ X0 ?_ [t.p, .int .i64 L.length, .int .i64 t.sz, .bool false] _ ?_ Tryd.underlying84 ?_ ?_
    · rfl
    · rfl
    · exact row_all hS'
    · rfl
    · kernel_rfl
  rotate_left
  · simp only [Act.put, List.setIfInBounds_toArray, List.set_cons_zero, List.set_cons_succ, i64_w, i32_w]
    rfl
  refine one_ (i := 0) (N := some 9) #[true, true, false, false, false] rfl rfl (by kernel_rfl) (by decide) (fun K hK => ?_)
  refine goes_ Tryd.func34 (by kernel_rfl) rfl #[.pointer (some ⟨X0, 0, none⟩)] (by rfl) rfl rfl (by simp only [List.map_toArray, List.map_cons, List.map_nil]; rfl) ?_
  refine (HN.out).mono ?_
  rintro e w3 ⟨rfl, rfl⟩
  refine ⟨_, rfl, ?_⟩
  refine hK.out _ _ HX.out (fun hHeld => ?_)
  clear hK K
  refine norm_ (a' := ?_) ?_ ?_
  rotate_left
  · show Act.put _ (some 9) _ = _
    simp only [Act.put, List.setIfInBounds_toArray, List.set_cons_zero, List.set_cons_succ, i64_w, i32_w]
    rfl
  refine one_ (i := 2) (N := some 11) #[true, true, true, false, false] rfl rfl (by kernel_rfl) (by decide) (fun K hK => ?_)
  refine goes_ Tryd.func45 (by kernel_rfl) rfl #[.agg (ssC t.p L.length t.sz false)] (by rfl) rfl rfl (by simp only [List.map_toArray, List.map_cons, List.map_nil]; rfl) ?_
  refine (HE.out).mono ?_
  rintro e w4 ⟨rfl, b4⟩
  refine ⟨_, rfl, ?_⟩
  refine hK.out _ _ (show w4.heap[X0]? = some (.cells (ssC t.p L.length t.sz false) 84 (0, 0)) from (b4.block X0 (Array.getElem?_eq_some_iff.1 HX.out).1).trans HX.out) (fun hHeld => ?_)
  clear hK K
  refine norm_ (a' := ?_) ?_ ?_
  rotate_left
  · show Act.put _ (some 11) _ = _
    simp only [Act.put, List.setIfInBounds_toArray, List.set_cons_zero, List.set_cons_succ, i64_w, i32_w]
    rfl
  refine pure_ (i := 3) (N := some 5) (v := ?_) (a' := ?_) #[true, true, true, true, false] rfl rfl (by kernel_rfl) (fun _ _ _ h => h) (Or.inl ⟨by rfl, ?_⟩) ?_ ?_
  rotate_left
  · intro w'
    go_simp
    with_reducible rfl
  rotate_left
  · simp only [Act.put, List.setIfInBounds_toArray, List.set_cons_zero, List.set_cons_succ, i64_w, i32_w]
    rfl
  refine pure_ (i := 4) (N := some 6) (v := ?_) (a' := ?_) #[true, true, true, true, true] rfl rfl (by kernel_rfl) (fun _ _ _ h => h) (Or.inl ⟨by rfl, ?_⟩) ?_ ?_
  rotate_left
  · intro w'
    go_simp
    with_reducible rfl
  rotate_left
  · simp only [Act.put, List.setIfInBounds_toArray, List.set_cons_zero, List.set_cons_succ, i64_w, i32_w]
    rfl
  refine done_ (by kernel_rfl) ?_
  obtain ⟨b1, z1, qx, qf, hN, hX0, hBF, hsz⟩ := H1.out
  have b14 : Below W1.heap.size W1 w4 := below_two (below_cut (pw_below_drewN (Below.refl W1.heap.size W1) 1) (Nat.le_refl _)) b4
  have qx4 := (b14.block X0 (by omega)).trans qx
  have qf4 := (b14.block BF (by omega)).trans qf
  have cF : w4.cell? ⟨BF, 0, none⟩ = some (.slice none 0 0) := cell_of_row w4 BF 0 _ _ _ qf4
  have fF : w4.frozen? ⟨BF, 0, none⟩ = false := by simp [World.frozen?, qf4]
  have d1 : decide ((0 : Int) < (N : Int)) = true := decide_eq_true (by omega)
  have d2 : decide (0 < N) = true := decide_eq_true (by omega)
  have d3 := eq_true (show 0 < N by omega)
  have hNb : N ≤ 100000000 := by have := HS.out.2.1; omega
  have mk := make8 N hNb w4
  obtain ⟨W5, hW5⟩ : ∃ W5, W5 = w4.alloc (.cells (u8s (List.replicate N 0)).toArray 5 (0, 0)) := ⟨_, rfl⟩
  obtain ⟨BB, hBB⟩ : ∃ BB, BB = w4.heap.size := ⟨_, rfl⟩
  rw [← hW5, ← hBB] at mk
  have b45 : Below w4.heap.size w4 W5 := by rw [hW5]; exact below_alloc (Below.refl _ _) _
  have z5 : W5.heap.size = BB + 1 := by rw [hW5, hBB]; simp
  have r5 : rowB W5 BB (List.replicate N 0) := by rw [hW5, hBB]; exact heap_alloc_new w4 _
  have b15 := below_two b14 (below_cut b45 b14.size)
  have lx : X0 < W1.heap.size ∧ BF < W1.heap.size := by omega
  have qx5 := (b15.block X0 lx.1).trans qx
  have qf5 := (b15.block BF lx.2).trans qf
  have cF5 : W5.cell? ⟨BF, 0, none⟩ = some (.slice none 0 0) := cell_of_row W5 BF 0 _ _ _ qf5
  have fF5 : W5.frozen? ⟨BF, 0, none⟩ = false := by simp [World.frozen?, qf5]
  have E5 : W5.setCell ⟨BF, 0, none⟩ (.slice (some ⟨BB, 0, none⟩) N N) = W5.setRow BF #[.slice (some ⟨BB, 0, none⟩) N N] := setCell_eq_setRow W5 BF 0 _ 47 (0, 0) (.slice (some ⟨BB, 0, none⟩) N N) qf5
  have hbb : BB ≠ BF ∧ BB ≠ X0 ∧ W1.heap.size ≤ BB := by have := b14.size; omega
  have H5 := Aside0.mk (And.intro b15 (And.intro z5 (And.intro r5 (And.intro qx5 (And.intro qf5 (And.intro E5 (And.intro hNb hbb)))))))
  clear b1 z1 qx qf hN hX0 hBF hsz b14 qx4 qf4 b4 HN HE HX hNb hW5 hBB b45 z5 r5 b15 lx qx5 qf5 E5 hbb
  go_wp2_with fail
  rw [H5.out.2.2.2.2.2.1]
  obtain ⟨LE, hLE⟩ : ∃ LE, LE = W5.heap.size := ⟨_, rfl⟩
  rw [← hLE]
  generalize hW6 : (W5.setRow BF (#[.slice (some ⟨BB, 0, none⟩) N N])).alloc (.cells #[] 94 (0, 0)) = W6
  obtain ⟨b15, z5, r5, qx5, qf5, E5, hNb, hbb1, hbb2, hbb3⟩ := H5.out
  obtain ⟨b1, z1, qx, qf, hN, hX0, hBF, hsz⟩ := H1.out
  have c56 : Chg [BF] W5 W6 := by
    rw [← hW6]
    exact (Chg.row W5 BF _).trans (G := []) ⟨rfl, rfl, rfl, by simp, fun k hk _ => Below.heap_alloc _ _ _ hk⟩ (fun x h => h) (fun x h _ => absurd h (by simp))
  have qf6 : W6.heap[BF]? = some (.cells #[.slice (some ⟨BB, 0, none⟩) N N] 47 (0, 0)) := by
    rw [← hW6, Below.heap_alloc _ _ _ (by rw [setRow_size]; omega)]
    exact setRow_heap W5 BF _ _ _ _ qf5
  have qx6 := (c56.keep X0 (by omega) (by simp; omega)).trans qx5
  have r6 : rowB W6 BB (List.replicate N 0) := (c56.keep BB (by omega) (by simp; omega)).trans r5
  have b06 : Below w.heap.size w W6 := below_two (below_two b1 (below_cut b15 b1.size)) ⟨c56.os, c56.tape, c56.output, c56.size, fun k hk => c56.keep k (by omega) (by simp; omega)⟩
  have z6 : W6.heap.size = LE + 1 := by rw [← hW6, hLE]; simp
  have d4 := eq_true (show 0 < N by omega)
  have d5 := eq_true (show 1 < N by omega)
  have d6 := eq_true (show (1 : Int) < (N : Int) by omega)
  have d7 := eq_true (show (0 : Int) < (N : Int) by omega)
  have HF := Aside0.mk qf6
  obtain ⟨M, hM⟩ : ∃ M, N = M + 10 := ⟨266 * t.sz, by omega⟩
  have H6 := Aside0.mk (And.intro qf6 (And.intro qx6 (And.intro r6 (And.intro b06 (And.intro z6 (And.intro hNb (And.intro hbb1 (And.intro hbb2 (And.intro hM (And.intro hN (And.intro hX0 (And.intro hBF (And.intro hsz (And.intro (show w.heap.size ≤ BB ∧ BB < LE by omega) hLE))))))))))))))
  clear hW6 hLE b15 z5 r5 qx5 qf5 E5 hNb hbb1 hbb2 hbb3 b1 z1 qx qf hN hX0 hBF hsz c56 qf6 qx6 r6 b06 z6 hM cF fF cF5 fF5 mk d1 d2 d3 H5 H1
  refine start_ (n := 6) (S := fun w' => w'.heap[BF]? = some (.cells #[.slice (some ⟨BB, 0, none⟩) N N] 47 (0, 0))) (ds := [5]) #[false, false, false, false, false, false] (by kernel_rfl) rfl rfl HF.out (fun hHeld => ?_)
  refine take_ (i := 0) (N := some 22) (v := ?_) (a' := ?_) #[true, false, false, false, false, false] rfl rfl (by kernel_rfl) (fun _ _ _ h => h) (Or.inl ⟨by rfl, ?_⟩) hHeld ?_ ?_
  rotate_left
  · intro w' hS'
    have cb : w'.cell? ⟨BF, 0, none⟩ = some (.slice (some ⟨BB, 0, none⟩) N N) := cell_of_row w' BF 0 _ _ _ hS'
    go_simp
    with_reducible rfl
  rotate_left
  · simp only [Act.put, List.setIfInBounds_toArray, List.set_cons_zero, List.set_cons_succ, i64_w, i32_w]
    rfl
  refine take_ (i := 1) (N := some 23) (v := ?_) (a' := ?_) #[true, true, false, false, false, false] rfl rfl (by kernel_rfl) (fun _ _ _ h => h) (Or.inl ⟨by rfl, ?_⟩) hHeld ?_ ?_
  rotate_left
  · intro w' hS'
    have cb : w'.cell? ⟨BF, 0, none⟩ = some (.slice (some ⟨BB, 0, none⟩) N N) := cell_of_row w' BF 0 _ _ _ hS'
    go_simp
    with_reducible rfl
  rotate_left
  · simp only [Act.put, List.setIfInBounds_toArray, List.set_cons_zero, List.set_cons_succ, i64_w, i32_w]
    rfl
  refine pure_ (i := 2) (N := some 24) (v := ?_) (a' := ?_) #[true, true, true, false, false, false] rfl rfl (by kernel_rfl) (fun _ _ _ h => h) (Or.inl ⟨by rfl, ?_⟩) ?_ ?_
  rotate_left
  · intro w'
    go_simp
    with_reducible rfl
  rotate_left
  · simp only [Act.put, List.setIfInBounds_toArray, List.set_cons_zero, List.set_cons_succ, i64_w, i32_w]
    rfl
  have c0 : W6.cell? ⟨BB, 0, none⟩ = some (.int .u8 0) := by rw [rowB_cell H6.out.2.2.1 0 (by rw [List.length_replicate]; have := H6.out.2.2.2.2.2.2.2.2.1; omega)]; simp
  have f0 : W6.frozen? ⟨BB, 0, none⟩ = false := rowB_free H6.out.2.2.1 0
  refine one_ (i := 3) (N := none) #[true, true, true, true, false, false] rfl rfl (by kernel_rfl) (by decide) (fun K hK => ?_)
  refine skip_ (w1 := ?_) (by rfl) rfl ?_ ?_
  rotate_left
  · go_simp
    rfl
  refine hK.out _ _ (((set_row H6.out.2.2.1 0 22 (by rw [List.length_replicate]; have := H6.out.2.2.2.2.2.2.2.2.1; omega)).2.keep BF (Array.getElem?_eq_some_iff.1 HF.out).1 (by simp; exact fun e => H6.out.2.2.2.2.2.2.1 e.symm)).trans HF.out) (fun hHeld => ?_)
  clear hK K
  have k7 := set_row H6.out.2.2.1 0 22 (by rw [List.length_replicate]; have := H6.out.2.2.2.2.2.2.2.2.1; omega)
  generalize (W6.setCell ⟨BB, 0, none⟩ (.int .u8 22)).drew = W7 at k7 hHeld ⊢
  have c1 : W7.cell? ⟨BB, 1, none⟩ = some (.int .u8 0) := by rw [rowB_cell k7.1 1 (by rw [List.length_set, List.length_replicate]; have := H6.out.2.2.2.2.2.2.2.2.1; omega)]; simp
  have f1 : W7.frozen? ⟨BB, 1, none⟩ = false := rowB_free k7.1 1
  have H7 := Aside0.mk k7
  clear k7 c0 f0
  refine pure_ (i := 4) (N := some 25) (v := ?_) (a' := ?_) #[true, true, true, true, true, false] rfl rfl (by kernel_rfl) (fun _ _ _ h => h) (Or.inl ⟨by rfl, ?_⟩) ?_ ?_
  rotate_left
  · intro w'
    go_simp
    with_reducible rfl
  rotate_left
  · simp only [Act.put, List.setIfInBounds_toArray, List.set_cons_zero, List.set_cons_succ, i64_w, i32_w]
    rfl
  refine last_ (i := 5) (N := none) #[true, true, true, true, true, true] rfl rfl (by kernel_rfl) (by decide) (fun K hK => ?_)
  refine skip_ (w1 := ?_) (by rfl) rfl ?_ ?_
  rotate_left
  · go_simp
    rfl
  refine hK.out _ _ ?_
  clear hK K
  have k8 := set_row' H7.out.1 1 2 (by rw [List.length_set, List.length_replicate]; have := H6.out.2.2.2.2.2.2.2.2.1; omega)
  generalize W7.setCell ⟨BB, 1, none⟩ (.int .u8 2) = W8 at k8 ⊢
  have H8 := Aside0.mk k8
  clear k8 c1 f1 d4 d5 d6 d7
  refine done_ (by kernel_rfl) ?_
  go_wp2_with fail
  obtain ⟨qf6, qx6, r6, b06, z6, hNb, hbb1, hbb2, hM, hN, hX0, hBF, hsz, hbl, hLE⟩ := H6.out
  have c68 : Chg [BB] W6 W8 := H7.out.2.trans H8.out.2 (fun x h => h) (fun x h _ => h)
  have r8 : rowB W8 BB ([22, 2] ++ List.replicate (M + 8) 0) := by
    have := H8.out.1
    rw [hM, show M + 10 = (M + 8) + 2 by omega] at this
    exact this
  obtain ⟨IX, hIX⟩ : ∃ IX, IX = W8.heap.size := ⟨_, rfl⟩
  rw [← hIX]
  generalize hW9 : W8.alloc (.cells #[.int .i64 2] 3 (0, 0)) = W9
  have b89 : Below W8.heap.size W8 W9 := by rw [← hW9]; exact below_alloc (Below.refl _ _) _
  have qi9 : W9.heap[IX]? = some (.cells #[.int .i64 2] 3 (0, 0)) := by rw [← hW9, hIX]; exact heap_alloc_new W8 _
  have z8 := c68.size
  have qf9 : W9.heap[BF]? = some (.cells #[.slice (some ⟨BB, 0, none⟩) N N] 47 (0, 0)) := (b89.block BF (by omega)).trans ((c68.keep BF (by omega) (by simp; omega)).trans qf6)
  have qx9 : W9.heap[X0]? = some (.cells (ssC t.p L.length t.sz false) 84 (0, 0)) := (b89.block X0 (by omega)).trans ((c68.keep X0 (by omega) (by simp; omega)).trans qx6)
  have r9 : rowB W9 BB ([22, 2] ++ List.replicate (M + 8) 0) := (b89.block BB (by omega)).trans r8
  have b09 : Below w.heap.size w W9 := below_two b06 (below_two ⟨c68.os, c68.tape, c68.output, c68.size, fun k hk => c68.keep k (by omega) (by simp; omega)⟩ (below_cut b89 (by omega)))
  have s8 : ∀ W, (Instr.slice 47 (.slice (some ⟨BB, 0, none⟩) N N) (some (.int .i64 2)) none none).run Tryd.prog W = .ok (.slice (some ⟨BB, 2, none⟩) (N - 2) (N - 2)) W := fun W => by
    have := slice_l8 BB 0 N N 2 (by omega) (by omega) W
    exact this
  have u8' : IntKind.u32.wrap ((t.sz : Nat) : Int) = (t.sz : Int) := by
    show (t.sz : Int) % 4294967296 = _
    omega
  have hP8 := put4_calls BB 2 (N - 2) (N - 2) t.sz _ W9.drew (by omega) (by omega) r9 (by simp)
  have HP8 := Aside0.mk hP8
  have H9 := Aside0.mk (And.intro qf9 (And.intro qi9 qx9))
  have HB9 := Aside0.mk (And.intro b09 (And.intro (show IX ≠ BB ∧ IX ≠ BF ∧ IX ≠ X0 ∧ w.heap.size ≤ IX ∧ LE < IX ∧ IX < W9.heap.size by have := (Array.getElem?_eq_some_iff.1 qi9).1; omega) r9))
  clear qf6 qx6 r6 b06 z6 hNb hbb1 hbb2 hM hN hX0 hBF hsz hbl hLE c68 r8 hIX hW9 b89 qi9 z8 qf9 qx9 r9 b09 hP8 H7 H8 hHeld
  refine start_ (n := 7) (S := fun w' => w'.heap[BF]? = some (.cells #[.slice (some ⟨BB, 0, none⟩) N N] 47 (0, 0)) ∧ w'.heap[IX]? = some (.cells #[.int .i64 2] 3 (0, 0)) ∧ w'.heap[X0]? = some (.cells (ssC t.p L.length t.sz false) 84 (0, 0))) (ds := [6]) #[false, false, false, false, false, false, false] (by kernel_rfl) rfl rfl H9.out (fun hHeld => ?_)
  refine take_ (i := 0) (N := some 26) (v := ?_) (a' := ?_) #[true, false, false, false, false, false, false] rfl rfl (by kernel_rfl) (fun _ _ _ h => h) (Or.inl ⟨by rfl, ?_⟩) hHeld ?_ ?_
  rotate_left
  · intro w' hS'
    have hle := load_le LE w'
    go_simp
    with_reducible rfl
  rotate_left
  · simp only [Act.put, List.setIfInBounds_toArray, List.set_cons_zero, List.set_cons_succ, i64_w, i32_w]
    rfl
  refine take_ (i := 1) (N := some 27) (v := ?_) (a' := ?_) #[true, true, false, false, false, false, false] rfl rfl (by kernel_rfl) (fun _ _ _ h => h) (Or.inl ⟨by rfl, ?_⟩) hHeld ?_ ?_
  rotate_left
  · intro w' hS'
    have cb : w'.cell? ⟨BF, 0, none⟩ = some (.slice (some ⟨BB, 0, none⟩) N N) := cell_of_row w' BF 0 _ _ _ hS'.1
    go_simp
    with_reducible rfl
  rotate_left
  · simp only [Act.put, List.setIfInBounds_toArray, List.set_cons_zero, List.set_cons_succ, i64_w, i32_w]
    rfl
  refine take_ (i := 2) (N := some 28) (v := ?_) (a' := ?_) #[true, true, true, false, false, false, false] rfl rfl (by kernel_rfl) (fun _ _ _ h => h) (Or.inl ⟨by rfl, ?_⟩) hHeld ?_ ?_
  rotate_left
  · intro w' hS'
    have ci : w'.cell? ⟨IX, 0, none⟩ = some (.int .i64 2) := cell_of_row w' IX 0 _ _ _ hS'.2.1
    go_simp
    with_reducible rfl
  rotate_left
  · simp only [Act.put, List.setIfInBounds_toArray, List.set_cons_zero, List.set_cons_succ, i64_w, i32_w]
    rfl
  refine pure_ (i := 3) (N := some 29) (v := ?_) (a' := ?_) #[true, true, true, true, false, false, false] rfl rfl (by kernel_rfl) (fun _ _ _ h => h) (Or.inl ⟨by rfl, ?_⟩) ?_ ?_
  rotate_left
  · intro w'
    go_simp
    with_reducible rfl
  rotate_left
  · simp only [Act.put, List.setIfInBounds_toArray, List.set_cons_zero, List.set_cons_succ, i64_w, i32_w]
    rfl
  refine pure_ (i := 4) (N := some 30) (v := ?_) (a' := ?_) #[true, true, true, true, true, false, false] rfl rfl (by kernel_rfl) (fun _ _ _ h => h) (Or.inl ⟨by rfl, ?_⟩) ?_ ?_
  rotate_left
  · intro w'
    go_simp
    with_reducible rfl
  rotate_left
  · simp only [Act.put, List.setIfInBounds_toArray, List.set_cons_zero, List.set_cons_succ, i64_w, i32_w]
    rfl
  refine pure_ (i := 5) (N := some 31) (v := ?_) (a' := ?_) #[true, true, true, true, true, true, false] rfl rfl (by kernel_rfl) (fun _ _ _ h => h) (Or.inl ⟨by rfl, ?_⟩) ?_ ?_
  rotate_left
  · intro w'
    go_simp
    with_reducible rfl
  rotate_left
  · simp only [Act.put, List.setIfInBounds_toArray, List.set_cons_zero, List.set_cons_succ, i64_w, i32_w]
    rfl
  refine last_ (i := 6) (N := some 32) #[true, true, true, true, true, true, true] rfl rfl (by kernel_rfl) (by decide) (fun K hK => ?_)
  refine goes_ Tryd.func58 (by kernel_rfl) rfl #[.agg #[], .slice (some ⟨BB, 2, none⟩) (N - 2) (N - 2), .int .u32 (t.sz : Nat)] (by rfl) rfl rfl (by simp only [List.map_toArray, List.map_cons, List.map_nil]; rfl) ?_
  refine (HP8.out).mono ?_
  rintro e w10 ⟨rfl, r10, c10⟩
  refine ⟨_, rfl, ?_⟩
  refine hK.out _ _ ?_
  clear hK K
  refine done_ (by kernel_rfl) ?_
  obtain ⟨qf9, qi9, qx9⟩ := H9.out
  obtain ⟨b09, hi9, r9⟩ := HB9.out
  obtain ⟨qf6, qx6, r6, b06, z6, hNb, hbb1, hbb2, hM, hN, hX0, hBF, hsz, hbl, hLE⟩ := H6.out
  have c910 : Chg [BB] W9 w10 := (Chg_drew W9).trans c10 (fun x h => absurd h (by simp)) (fun x h _ => h)
  have r10' : rowB w10 BB (([22, 2] ++ leN 4 t.sz) ++ (List.replicate (M + 8) 0).drop 4) := by
    rw [← put_at (D := [22, 2]) (R := List.replicate (M + 8) 0) (k := 4) (v := t.sz) (by rw [List.length_replicate]; omega)]
    exact r10
  rw [List.drop_replicate, show M + 8 - 4 = M + 4 by omega] at r10'
  have hd1 : ([22, 2] ++ leN 4 t.sz).length = 6 := by rw [List.length_append, leN_len]; rfl
  have lx : X0 < W9.heap.size ∧ BF < W9.heap.size := ⟨(Array.getElem?_eq_some_iff.1 qx9).1, (Array.getElem?_eq_some_iff.1 qf9).1⟩
  have qf10 := (c910.keep BF lx.2 (by simp; omega)).trans qf9
  have qi10 := (c910.keep IX hi9.2.2.2.2.2 (by simp; omega)).trans qi9
  have qx10 := (c910.keep X0 lx.1 (by simp; omega)).trans qx9
  have b010 : Below w.heap.size w w10 := below_two b09 ⟨c910.os, c910.tape, c910.output, c910.size, fun k hk => c910.keep k (Nat.lt_of_lt_of_le hk b09.size) (by simp; omega)⟩
  have s9 : ∀ W, (Instr.slice 47 (.slice (some ⟨BB, 0, none⟩) N N) (some (.int .i64 6)) none none).run Tryd.prog W = .ok (.slice (some ⟨BB, 6, none⟩) (N - 6) (N - 6)) W := fun W => by
    have := slice_l8 BB 0 N N 6 (by omega) (by omega) W
    exact this
  have u9 : IntKind.u32.wrap ((L.length : Nat) : Int) = (L.length : Int) := by
    have := HS.out.2.1
    show (L.length : Int) % 4294967296 = _
    omega
  have w6 : wrap64 (2 + 4) = 6 := Road.w64 _ _ (by omega) (by omega) (by omega)
  have w6' : wrap64 6 = 6 := Road.w64 _ _ rfl (by omega) (by omega)
  have hP9 := put4_calls BB 6 (N - 6) (N - 6) L.length _ w10.drew (by have := HS.out.2.1; omega) (by omega) r10' (by rw [List.length_append, hd1, List.length_replicate]; omega)
  have HP9 := Aside0.mk hP9
  have H10 := Aside0.mk (And.intro qf10 (And.intro qi10 qx10))
  have HB10 := Aside0.mk (And.intro b010 (And.intro c910.size (And.intro r10' hd1)))
  clear qf9 qi9 qx9 b09 hi9 r9 qf6 qx6 r6 b06 z6 hNb hbb1 hbb2 hM hN hX0 hBF hsz hbl hLE c910 r10' hd1 lx qf10 qi10 qx10 b010 hP9 HP8 s8 u8' c10 r10 hHeld
  go_wp2_with fail
  refine start_ (n := 9) (S := fun w' => w'.heap[BF]? = some (.cells #[.slice (some ⟨BB, 0, none⟩) N N] 47 (0, 0)) ∧ w'.heap[IX]? = some (.cells #[.int .i64 2] 3 (0, 0)) ∧ w'.heap[X0]? = some (.cells (ssC t.p L.length t.sz false) 84 (0, 0))) (ds := [8]) #[false, false, false, false, false, false, false, false, false] (by kernel_rfl) rfl rfl H10.out (fun hHeld => ?_)
  refine take_ (i := 0) (N := some 33) (v := ?_) (a' := ?_) #[true, false, false, false, false, false, false, false, false] rfl rfl (by kernel_rfl) (fun _ _ _ h => h) (Or.inl ⟨by rfl, ?_⟩) hHeld ?_ ?_
  rotate_left
  · intro w' hS'
    have hle := load_le LE w'
    go_simp
    with_reducible rfl
  rotate_left
  · simp only [Act.put, List.setIfInBounds_toArray, List.set_cons_zero, List.set_cons_succ, i64_w, i32_w]
    rfl
  refine take_ (i := 1) (N := some 34) (v := ?_) (a' := ?_) #[true, true, false, false, false, false, false, false, false] rfl rfl (by kernel_rfl) (fun _ _ _ h => h) (Or.inl ⟨by rfl, ?_⟩) hHeld ?_ ?_
  rotate_left
  · intro w' hS'
    have cb : w'.cell? ⟨BF, 0, none⟩ = some (.slice (some ⟨BB, 0, none⟩) N N) := cell_of_row w' BF 0 _ _ _ hS'.1
    go_simp
    with_reducible rfl
  rotate_left
  · simp only [Act.put, List.setIfInBounds_toArray, List.set_cons_zero, List.set_cons_succ, i64_w, i32_w]
    rfl
  refine take_ (i := 2) (N := some 35) (v := ?_) (a' := ?_) #[true, true, true, false, false, false, false, false, false] rfl rfl (by kernel_rfl) (fun _ _ _ h => h) (Or.inl ⟨by rfl, ?_⟩) hHeld ?_ ?_
  rotate_left
  · intro w' hS'
    have ci : w'.cell? ⟨IX, 0, none⟩ = some (.int .i64 2) := cell_of_row w' IX 0 _ _ _ hS'.2.1
    go_simp
    with_reducible rfl
  rotate_left
  · simp only [Act.put, List.setIfInBounds_toArray, List.set_cons_zero, List.set_cons_succ, i64_w, i32_w]
    rfl
  refine pure_ (i := 3) (N := some 36) (v := ?_) (a' := ?_) #[true, true, true, true, false, false, false, false, false] rfl rfl (by kernel_rfl) (fun _ _ _ h => h) (Or.inl ⟨by rfl, ?_⟩) ?_ ?_
  rotate_left
  · intro w'
    go_simp
    with_reducible rfl
  rotate_left
  · simp only [Act.put, List.setIfInBounds_toArray, List.set_cons_zero, List.set_cons_succ, i64_w, i32_w]
    rfl
  refine pure_ (i := 4) (N := some 37) (v := ?_) (a' := ?_) #[true, true, true, true, true, false, false, false, false] rfl rfl (by kernel_rfl) (fun _ _ _ h => h) (Or.inl ⟨by rfl, ?_⟩) ?_ ?_
  rotate_left
  · intro w'
    go_simp
    with_reducible rfl
  rotate_left
  · simp only [Act.put, List.setIfInBounds_toArray, List.set_cons_zero, List.set_cons_succ, i64_w, i32_w]
    rfl
  refine pure_ (i := 5) (N := some 38) (v := ?_) (a' := ?_) #[true, true, true, true, true, true, false, false, false] rfl rfl (by kernel_rfl) (fun _ _ _ h => h) (Or.inl ⟨by rfl, ?_⟩) ?_ ?_
  rotate_left
  · intro w'
    go_simp
    with_reducible rfl
  rotate_left
  · simp only [Act.put, List.setIfInBounds_toArray, List.set_cons_zero, List.set_cons_succ, i64_w, i32_w]
    rfl
  refine take_ (i := 6) (N := some 39) (v := ?_) (a' := ?_) #[true, true, true, true, true, true, true, false, false] rfl rfl (by kernel_rfl) (fun _ _ _ h => h) (Or.inl ⟨by rfl, ?_⟩) hHeld ?_ ?_
  rotate_left
  · intro w' hS'
    have cx : w'.cell? ⟨X0, 1, none⟩ = some (.int .i64 (L.length : Nat)) := cell_of_row w' X0 1 _ _ _ hS'.2.2
    go_simp
    with_reducible rfl
  rotate_left
  · simp only [Act.put, List.setIfInBounds_toArray, List.set_cons_zero, List.set_cons_succ, i64_w, i32_w]
    rfl
  refine pure_ (i := 7) (N := some 40) (v := ?_) (a' := ?_) #[true, true, true, true, true, true, true, true, false] rfl rfl (by kernel_rfl) (fun _ _ _ h => h) (Or.inl ⟨by rfl, ?_⟩) ?_ ?_
  rotate_left
  · intro w'
    go_simp
    with_reducible rfl
  rotate_left
  · simp only [Act.put, List.setIfInBounds_toArray, List.set_cons_zero, List.set_cons_succ, i64_w, i32_w]
    rfl
  refine last_ (i := 8) (N := some 41) #[true, true, true, true, true, true, true, true, true] rfl rfl (by kernel_rfl) (by decide) (fun K hK => ?_)
  refine goes_ Tryd.func58 (by kernel_rfl) rfl #[.agg #[], .slice (some ⟨BB, 6, none⟩) (N - 6) (N - 6), .int .u32 (L.length : Nat)] (by rfl) rfl rfl (by simp only [List.map_toArray, List.map_cons, List.map_nil]; rfl) ?_
  refine (HP9.out).mono ?_
  rintro e w11 ⟨rfl, r11, c11⟩
  refine ⟨_, rfl, ?_⟩
  refine hK.out _ _ ?_
  clear hK K
  refine done_ (by kernel_rfl) ?_
  obtain ⟨qf10, qi10, qx10⟩ := H10.out
  obtain ⟨b010, z10, r10', hd1⟩ := HB10.out
  obtain ⟨b09, hi9, r9⟩ := HB9.out
  obtain ⟨qf6, qx6, r6, b06, z6, hNb, hbb1, hbb2, hM, hN, hX0, hBF, hsz, hbl, hLE⟩ := H6.out
  have c1011 : Chg [BB] w10 w11 := (Chg_drew w10).trans c11 (fun x h => absurd h (by simp)) (fun x h _ => h)
  have r11' : rowB w11 BB ((([22, 2] ++ leN 4 t.sz) ++ leN 4 L.length) ++ List.replicate M 0) := by
    have e := put_at (D := [22, 2] ++ leN 4 t.sz) (R := List.replicate (M + 4) 0) (k := 4) (v := L.length) (by rw [List.length_replicate]; omega)
    rw [hd1] at e
    rw [List.drop_replicate, show M + 4 - 4 = M by omega] at e
    rw [← e]
    exact r11
  have hd2 : (([22, 2] ++ leN 4 t.sz) ++ leN 4 L.length).length = 10 := by rw [List.length_append, hd1, leN_len]
  have lx : X0 < w10.heap.size ∧ BF < w10.heap.size ∧ IX < w10.heap.size := ⟨(Array.getElem?_eq_some_iff.1 qx10).1, (Array.getElem?_eq_some_iff.1 qf10).1, (Array.getElem?_eq_some_iff.1 qi10).1⟩
  have qf11 := (c1011.keep BF lx.2.1 (by simp; omega)).trans qf10
  have qi11 := (c1011.keep IX lx.2.2 (by simp; omega)).trans qi10
  have qx11 := (c1011.keep X0 lx.1 (by simp; omega)).trans qx10
  have b011 : Below w.heap.size w w11 := below_two b010 ⟨c1011.os, c1011.tape, c1011.output, c1011.size, fun k hk => c1011.keep k (Nat.lt_of_lt_of_le hk b010.size) (by simp; omega)⟩
  have ci : w11.cell? ⟨IX, 0, none⟩ = some (.int .i64 2) := cell_of_row w11 IX 0 _ _ _ qi11
  have fi : w11.frozen? ⟨IX, 0, none⟩ = false := by simp [World.frozen?, qi11]
  have w10' : wrap64 (2 + 8) = 10 := Road.w64 _ _ (by omega) (by omega) (by omega)
  have w10'' : wrap64 10 = 10 := Road.w64 _ _ rfl (by omega) (by omega)
  have E11 : w11.setCell ⟨IX, 0, none⟩ (.int .i64 10) = w11.setRow IX #[.int .i64 10] := setCell_eq_setRow w11 IX 0 _ 3 (0, 0) (.int .i64 10) qi11
  obtain ⟨W12, hW12⟩ : ∃ W12, W12 = w11.setRow IX #[.int .i64 10] := ⟨_, rfl⟩
  rw [← hW12] at E11
  have qi12 : W12.heap[IX]? = some (.cells #[.int .i64 10] 3 (0, 0)) := by rw [hW12]; exact setRow_heap w11 IX _ _ _ _ qi11
  have c12 : Chg [IX] w11 W12 := by rw [hW12]; exact Chg.row _ _ _
  have l11 := c1011.size
  have qf12 := (c12.keep BF (by omega) (by simp; omega)).trans qf11
  have qx12 := (c12.keep X0 (by omega) (by simp; omega)).trans qx11
  have r12 : rowB W12 BB ((([22, 2] ++ leN 4 t.sz) ++ leN 4 L.length) ++ List.replicate M 0) := (c12.keep BB (Array.getElem?_eq_some_iff.1 r11').1 (by simp; omega)).trans r11'
  have b012 : Below w.heap.size w W12 := below_two b011 ⟨c12.os, c12.tape, c12.output, c12.size, fun k hk => c12.keep k (Nat.lt_of_lt_of_le hk b011.size) (by simp; omega)⟩
  have cr : W12.cell? ⟨X0, 0, none⟩ = some (.pointer t.pp) := cell_of_row W12 X0 0 _ _ _ qx12
  have hEnc : EncAt BF IX BB N (([22, 2] ++ leN 4 t.sz) ++ leN 4 L.length) W12 := ⟨qf12, by rw [hd2]; exact qi12, List.replicate M 0, r12, by rw [hd2, List.length_replicate]; omega⟩
  have hlt : ∀ x ∈ t.bl, x < W12.heap.size ∧ x ∉ [BB, IX] := fun x hx => by
    have := at_lt t HS.out.1.tr x hx
    have := b012.size
    exact ⟨by omega, by simp; omega⟩
  have hgt : 3 < W12.heap.size ∧ 3 ∉ [BB, IX] := by
    have := tab_lt HS.out.2.2
    have := b012.size
    exact ⟨by omega, by simp; omega⟩
  have hat := at_keep (F := []) ⟨b012.os, b012.tape, b012.output, b012.size, fun k hk _ => b012.block k hk⟩ t HS.out.1.tr (by simp)
  have hlen := preE_len t (lenE_of t HS.out.1.tr)
  have hNI := nodeIterE_calls N W12.heap.size [BB, IX] (fun D w => W12.heap.size ≤ w.heap.size ∧ EncAt BF IX BB N D w) BF IX LE
    (fun L g b bs l r h w hI ha hf _ _ hNN => by
      refine (encNode_calls BF IX LE BB N L g b bs l r h w hI.2 ha (by have := hf.1.1; omega) hf.2.1 hf.1.2 (by rw [recN_len ha.1] at hNN; exact hNN) hNb).mono ?_
      rintro e w' ⟨he, h1, h2⟩
      exact ⟨he, ⟨Nat.le_trans hI.1 h2.size, h1⟩, ⟨h2.os, h2.tape, h2.output, h2.size, fun k hk hn => h2.keep k (Nat.lt_of_lt_of_le hk hI.1) hn⟩⟩)
    hgt t _ W12 hat (fitE_of t HS.out.1.rep.fit HS.out.1.rep.good (by have := HS.out.2.1; omega)) ⟨Nat.le_refl _, hEnc⟩ (tab_below b012 HS.out.2.2) hlt (by rw [hd2, hlen]; omega)
  have HNI := Aside0.mk hNI
  have H12 := Aside0.mk (And.intro b012 (And.intro hd2 hlen))
  have HE11 := Aside0.mk E11
  clear qf10 qi10 qx10 b010 z10 r10' hd1 b09 hi9 r9 qf6 qx6 r6 b06 z6 hNb hbb1 hbb2 hM hN hX0 hBF hsz hbl hLE c1011 r11' hd2 lx qf11 qi11 qx11 b011 hW12 qi12 c12 l11 qf12 qx12 r12 b012 hEnc hlt hgt hat hlen hNI c11 r11 HP9 s9 u9 w6 w6' H9 H10 HB10 hHeld
  go_wp2_with fail
  refine HNI.out.mono ?_
  rintro e w13 ⟨rfl, i13, l13⟩
  obtain ⟨z13, e13⟩ := i13
  obtain ⟨b012, hd2, hlen⟩ := H12.out
  obtain ⟨b09, hi9, r9⟩ := HB9.out
  obtain ⟨qf6, qx6, r6, b06, z6, hNb, hbb1, hbb2, hM, hN, hX0, hBF, hsz, hbl, hLE⟩ := H6.out
  have hD : ((([22, 2] ++ leN 4 t.sz) ++ leN 4 L.length) ++ preE t).length = N := by rw [List.length_append, hd2, hlen]; omega
  obtain ⟨Rz, hRz, hRl⟩ := e13.row
  have hRn : Rz = [] := List.length_eq_zero_iff.1 (by omega)
  subst hRn
  rw [List.append_nil] at hRz
  have cb : w13.cell? ⟨BF, 0, none⟩ = some (.slice (some ⟨BB, 0, none⟩) N N) := cell_of_row w13 BF 0 _ _ _ e13.buf
  have ci : w13.cell? ⟨IX, 0, none⟩ = some (.int .i64 (N : Nat)) := by
    have := cell_of_row w13 IX 0 _ _ _ e13.idx
    rw [hD] at this
    exact this
  have s12 : ∀ W, (Instr.slice 47 (.slice (some ⟨BB, 0, none⟩) N N) none (some (.int .i64 (N : Int))) none).run Tryd.prog W = .ok (.slice (some ⟨BB, 0, none⟩) N N) W := fun W => slice_h8 BB N W
  have b013 : Below w.heap.size w w13 := below_two b012 ⟨l13.os, l13.tape, l13.output, l13.size, fun k hk => l13.keep k (Nat.lt_of_lt_of_le hk b012.size) (by simp; omega)⟩
  have H13 := Aside0.mk (And.intro hD (And.intro hRz (And.intro b013 (And.intro hbl.1 hNb))))
  clear z13 e13 b012 hd2 hlen b09 hi9 r9 qf6 qx6 r6 b06 z6 hNb hbb1 hbb2 hM hN hX0 hBF hsz hbl hLE hD hRz hRl l13 b013 HNI
  go_wp2_with fail
  go_ret
  obtain ⟨hD, hRz, b013, hge, hNb⟩ := H13.out
  refine ⟨_, rfl, ?_, b013⟩
  have := row_R (base := w.heap.size) hRz hge (by omega)
  rw [hD] at this
  simpa [List.append_assoc] using this
def encN (t : Tr) (L : List Nat) : List Nat := [22, 2] ++ (leN 4 t.sz ++ (leN 4 L.length ++ preE t))
def encB (t : Tr) (L : List Nat) : List Int := (encN t L).map (fun n : Nat => (n : Int))
theorem preE_er : ∀ t : Tr, preE (er t) = preE t
  | .nil => rfl
  | .node g b bs l r h => by rw [er, preE, preE, preE_er l, preE_er r]
theorem encB_er (t : Tr) (L : List Nat) : encB (er t) L = encB t L := by rw [encB, encN, encB, encN, er_sz, preE_er]
set_option maxHeartbeats 16000000 in
set_option maxRecDepth 100000 in
theorem SetEncode_walk (A : Option Addr) (c : Nat) (acts : List (Int × Int)) (w : World) (hA : ActsAt w A acts) (hac : acts.length ≤ c) (hF : Formed acts) (hl : acts.length ≤ 9000) (hT : TabAt 3 Lib.deBruijn64tab w) :
    Calls Tryd.prog 23 #[.slice A acts.length c] w fun e w' => ∃ v, e = .returned (.tuple #[v, .int .i64 ((10 + 266 * (actsT .nil acts).sz : Nat) : Int)]) ∧ Kd.R (Kd.int .u8) 5 w' w.heap.size (fun _ => True) v (encB (actsT .nil acts) (actsL [] acts)) ∧ Below w.heap.size w w' := by
  have HS := Aside0.mk (set_make A c acts w hA hac hF hl)
  have HL := Aside0.mk (And.intro hT (show (actsL [] acts).length ≤ 9000 by have := actsL_le acts []; simp only [List.length_nil] at this; omega))
  clear hA hac hF hl hT
  go_enter Tryd.func23, Tryd.ntmps23
  go_wp2_with fail
  refine HS.out.mono ?_
  rintro e w3 ⟨SS, t, rfl, hS3, hss, hx, hb3, he⟩
  have HC := Aside0.mk (Encode_calls SS t _ w3.drew (hS3.keep (Chg_drew w3) (by simp)) HL.out.2 (tab_below (below_step hb3 (pw_below_drewN (Below.refl _ _) 1)) HL.out.1))
  have H3 := Aside0.mk (And.intro hS3 (And.intro hb3 (And.intro he HL.out.2)))
  clear hS3 hss hx hb3 he
  go_wp2_with fail
  refine start_ (n := 10) (S := fun w' => w'.heap[SS]? = some (.cells (ssC t.p (actsL [] acts).length t.sz false) 84 (0, 0))) (ds := []) #[false, false, false, false, false, false, false, false, false, false] (by kernel_rfl) rfl rfl H3.out.1.ss (fun hHeld => ?_)
  refine pure_ (i := 0) (N := some 7) (v := ?_) (a' := ?_) #[true, false, false, false, false, false, false, false, false, false] rfl rfl (by kernel_rfl) (fun _ _ _ h => h) (Or.inl ⟨by rfl, ?_⟩) ?_ ?_
  rotate_left
  · intro w'
    go_simp
    with_reducible rfl
  rotate_left
  · simp only [Act.put, List.setIfInBounds_toArray, List.set_cons_zero, List.set_cons_succ, i64_w, i32_w]
    rfl
  refine pure_ (i := 1) (N := some 8) (v := ?_) (a' := ?_) #[true, true, false, false, false, false, false, false, false, false] rfl rfl (by kernel_rfl) (fun _ _ _ h => h) (Or.inl ⟨by rfl, ?_⟩) ?_ ?_
  rotate_left
  · intro w'
    go_simp
    with_reducible rfl
  rotate_left
  · simp only [Act.put, List.setIfInBounds_toArray, List.set_cons_zero, List.set_cons_succ, i64_w, i32_w]
    rfl
  refine take_ (i := 2) (N := some 9) (v := ?_) (a' := ?_) #[true, true, true, false, false, false, false, false, false, false] rfl rfl (by kernel_rfl) (fun _ _ _ h => h) (Or.inl ⟨by rfl, ?_⟩) hHeld ?_ ?_
  rotate_left
  · intro w' hS'
    refine exec_load_row 84 (.tmp 8) ?_ SS ?_ [t.p, .int .i64 (actsL [] acts).length, .int .i64 t.sz, .bool false] _ ?_ Tryd.underlying84 ?_ ?_
    · rfl
    · rfl
    · exact row_all hS'
    · rfl
    · kernel_rfl
  rotate_left
  · simp only [Act.put, List.setIfInBounds_toArray, List.set_cons_zero, List.set_cons_succ, i64_w, i32_w]
    rfl
  refine pure_ (i := 4) (N := some 11) (v := ?_) (a' := ?_) #[true, true, true, false, true, false, false, false, false, false] rfl rfl (by kernel_rfl) (fun _ _ _ h => h) (Or.inl ⟨by rfl, ?_⟩) ?_ ?_
  rotate_left
  · intro w'
    go_simp
    with_reducible rfl
  rotate_left
  · simp only [Act.put, List.setIfInBounds_toArray, List.set_cons_zero, List.set_cons_succ, i64_w, i32_w]
    rfl
  refine pure_ (i := 5) (N := some 12) (v := ?_) (a' := ?_) #[true, true, true, false, true, true, false, false, false, false] rfl rfl (by kernel_rfl) (fun _ _ _ h => h) (Or.inl ⟨by rfl, ?_⟩) ?_ ?_
  rotate_left
  · intro w'
    go_simp
    with_reducible rfl
  rotate_left
  · simp only [Act.put, List.setIfInBounds_toArray, List.set_cons_zero, List.set_cons_succ, i64_w, i32_w]
    rfl
  refine take_ (i := 6) (N := some 13) (v := ?_) (a' := ?_) #[true, true, true, false, true, true, true, false, false, false] rfl rfl (by kernel_rfl) (fun _ _ _ h => h) (Or.inl ⟨by rfl, ?_⟩) hHeld ?_ ?_
  rotate_left
  · intro w' hS'
    refine exec_load_row 84 (.tmp 12) ?_ SS ?_ [t.p, .int .i64 (actsL [] acts).length, .int .i64 t.sz, .bool false] _ ?_ Tryd.underlying84 ?_ ?_
    · rfl
    · rfl
    · exact row_all hS'
    · rfl
    · kernel_rfl
  rotate_left
  · simp only [Act.put, List.setIfInBounds_toArray, List.set_cons_zero, List.set_cons_succ, i64_w, i32_w]
    rfl
  refine one_ (i := 3) (N := some 10) #[true, true, true, true, true, true, true, false, false, false] rfl rfl (by kernel_rfl) (by decide) (fun K hK => ?_)
  refine goes_ Tryd.func44 (by kernel_rfl) rfl #[.agg (ssC t.p (actsL [] acts).length t.sz false), .slice none 0 0] (by rfl) rfl rfl (by simp only [List.map_toArray, List.map_cons, List.map_nil]; rfl) ?_
  refine (HC.out).mono ?_
  rintro e w4 ⟨v4, rfl, r4, b4⟩
  refine ⟨_, rfl, ?_⟩
  refine hK.out _ _ (show w4.heap[SS]? = some (.cells (ssC t.p (actsL [] acts).length t.sz false) 84 (0, 0)) from (b4.block SS H3.out.1.lt).trans H3.out.1.ss) (fun hHeld => ?_)
  clear hK K
  refine norm_ (a' := ?_) ?_ ?_
  rotate_left
  · show Act.put _ (some 10) _ = _
    simp only [Act.put, List.setIfInBounds_toArray, List.set_cons_zero, List.set_cons_succ, i64_w, i32_w]
    rfl
  refine one_ (i := 7) (N := some 14) #[true, true, true, true, true, true, true, true, false, false] rfl rfl (by kernel_rfl) (by decide) (fun K hK => ?_)
  refine goes_ Tryd.func45 (by kernel_rfl) rfl #[.agg (ssC t.p (actsL [] acts).length t.sz false)] (by rfl) rfl rfl (by simp only [List.map_toArray, List.map_cons, List.map_nil]; rfl) ?_
  refine (encLen_calls t.p (actsL [] acts).length t.sz false w4 (by have := H3.out.2.2.2; have := H3.out.1.rep.sz; omega)).mono ?_
  rintro e w5 ⟨rfl, b5⟩
  refine ⟨_, rfl, ?_⟩
  refine hK.out _ _ (show w5.heap[SS]? = some (.cells (ssC t.p (actsL [] acts).length t.sz false) 84 (0, 0)) from (b5.block SS (Nat.lt_of_lt_of_le H3.out.1.lt b4.size)).trans ((b4.block SS H3.out.1.lt).trans H3.out.1.ss)) (fun hHeld => ?_)
  clear hK K
  refine norm_ (a' := ?_) ?_ ?_
  rotate_left
  · show Act.put _ (some 14) _ = _
    simp only [Act.put, List.setIfInBounds_toArray, List.set_cons_zero, List.set_cons_succ, i64_w, i32_w]
    rfl
  refine pure_ (i := 8) (N := some 2) (v := ?_) (a' := ?_) #[true, true, true, true, true, true, true, true, true, false] rfl rfl (by kernel_rfl) (fun _ _ _ h => h) (Or.inl ⟨by rfl, ?_⟩) ?_ ?_
  rotate_left
  · intro w'
    go_simp
    with_reducible rfl
  rotate_left
  · simp only [Act.put, List.setIfInBounds_toArray, List.set_cons_zero, List.set_cons_succ, i64_w, i32_w]
    rfl
  refine pure_ (i := 9) (N := some 3) (v := ?_) (a' := ?_) #[true, true, true, true, true, true, true, true, true, true] rfl rfl (by kernel_rfl) (fun _ _ _ h => h) (Or.inl ⟨by rfl, ?_⟩) ?_ ?_
  rotate_left
  · intro w'
    go_simp
    with_reducible rfl
  rotate_left
  · simp only [Act.put, List.setIfInBounds_toArray, List.set_cons_zero, List.set_cons_succ, i64_w, i32_w]
    rfl
  refine done_ (by kernel_rfl) ?_
  have H5 := Aside0.mk (And.intro r4 (And.intro b4 b5))
  clear r4 b4 b5 hHeld
  go_wp2_with fail
  refine bodyPost_ret (results_tmp2 rfl _ _ _) rfl ?_
  obtain ⟨r4, b4, b5⟩ := H5.out
  obtain ⟨hS3, hb3, he, _⟩ := H3.out
  rw [← he, er_sz]
  refine ⟨v4, rfl, ?_, below_two hb3 (below_cut (below_two (below_cut (pw_below_drewN (Below.refl w3.heap.size w3) 1) (Nat.le_refl _)) (below_two b4 (below_cut b5 b4.size))) hb3.size)⟩
  rw [encB_er]
  exact Kd.R_mono (Kd.R_lower (Kd.R_below r4 b5) hb3.size) (fun _ _ => trivial)

end Go.Proofs.YtjhdnapgdajllaaDoor.SetEncW
