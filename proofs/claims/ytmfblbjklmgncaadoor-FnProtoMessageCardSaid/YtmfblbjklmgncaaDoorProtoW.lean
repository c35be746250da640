/- WALKS: numbers written and read as protocol buffers have them. -/
import Derived.Test.YtmfblbjklmgncaaDoorProg
import Derived.Below
import Derived.Deep.Draws
import Derived.Deep.AppendLies
import Derived.Maps.AppendAt
import Derived.OwnWalk
import Derived.Laws.BytesArg
import Derived.Laws.MakeOwn
import Derived.Laws.OwnMore
import Derived.Deep.OwnRows
import Derived.Tactics
import Derived.Lib.ConvBytes
import Derived.Laws.Slices
import Derived.WalkKit
import Derived.KernelRfl
import Derived.RowKit3
import Derived.Deep.LoopGhost
import Derived.Deep.QuietTactic
import Derived.BigQuiet
import Derived.WideLaws
import Derived.Deep.DeepCutAuto
import Derived.Deep.CutBlock
import Derived.Deep.RegionHeld3
import Derived.Laws.Rows
import Derived.Lib.AppendStr
import Derived.ArgAppend
import Derived.Laws.IdiomCopy
import Derived.OrdersHeld
import Derived.Laws.BitsLemmas
import Derived.RowKit
import Derived.Test.YtmfblbjklmgncaaDoorRoad
import Derived.Test.YtmfblbjklmgncaaDoorWWords
import Derived.Test.YtmfblbjklmgncaaDoorWLast
import Derived.Test.YtmfblbjklmgncaaDoorWTab
import Derived.Test.YtmfblbjklmgncaaDoorWFour
import Derived.Test.YtmfblbjklmgncaaDoorWQPut
import Derived.Test.YtmfblbjklmgncaaDoorWApart
import Derived.Test.YtmfblbjklmgncaaDoorWArr
import Derived.Test.YtmfblbjklmgncaaDoorWZeros
import Derived.Test.YtmfblbjklmgncaaDoorWFoot
import Derived.Test.YtmfblbjklmgncaaDoorWKept
import Derived.Test.YtmfblbjklmgncaaDoorWShare
import Derived.Test.YtmfblbjklmgncaaDoorWN
import Derived.Test.YtmfblbjklmgncaaDoorWFootNe
import Derived.Test.YtmfblbjklmgncaaDoorWAt
import Derived.Test.YtmfblbjklmgncaaDoorWEqStruct
import Derived.Test.YtmfblbjklmgncaaDoorWRepsOne
import Derived.Test.YtmfblbjklmgncaaDoorWInv
import Derived.Test.YtmfblbjklmgncaaDoorWInvWords
import Derived.Test.YtmfblbjklmgncaaDoorWGuard
import Derived.Test.YtmfblbjklmgncaaDoorWNEv
import Derived.Test.YtmfblbjklmgncaaDoorWMore
import Derived.StillTailTactics
import Derived.OneCell
import Derived.RegionTactic
import Derived.Lib.EndianBits
namespace Go.Proofs.YtmfblbjklmgncaaDoor.ProtoW
open Go.RowKit Go.Proofs.YtmfblbjklmgncaaDoorW.PrintWords Go.Proofs.YtmfblbjklmgncaaDoorW.PrintLast Go.Proofs.YtmfblbjklmgncaaDoorW.PrintMore
attribute [local go_sem] max2_int min2_int max_two min_two max_three min_three max_four min_four   -- for this text's walks alone
set_option linter.unusedVariables false
set_option linter.unusedSimpArgs false



/-! ### numbers as protocol buffers write them -/
def encV : Nat → Nat → List Int
  | 0, n => [(n : Int)]
  | k + 1, n => if n < 128 then [(n : Int)] else ((n % 128 + 128 : Nat) : Int) :: encV k (n / 128)
def scanV : Nat → Nat → List Int → Option (Int × Int)
  | _, _, [] => none
  | i, acc, b :: l => if i = 9 then (if b < 2 then some (((acc + b.toNat * 2 ^ 63 : Nat) : Int), 10) else none)
    else if b < 128 then some (((acc + b.toNat * 2 ^ (7 * i) : Nat) : Int), (i : Int) + 1) else scanV (i + 1) (acc + (b.toNat - 128) * 2 ^ (7 * i)) l
theorem encV_len (k n : Nat) : 0 < (encV k n).length ∧ (encV k n).length ≤ k + 1 := by
  induction k generalizing n with
  | zero => simp [encV]
  | succ k ih =>
    unfold encV
    split
    · simp
    · have := ih (n / 128); simp; omega
theorem pow7 (i : Nat) : 2 ^ (7 * (i + 1)) = 128 * 2 ^ (7 * i) := by rw [Nat.mul_add, Nat.pow_add]; omega
theorem scanV_enc (k : Nat) : ∀ (n i acc : Nat) (more : List Int), i + k = 9 → n * 2 ^ (7 * i) < 2 ^ 64 → scanV i acc (encV k n ++ more) = some (((acc + n * 2 ^ (7 * i) : Nat) : Int), (i : Int) + (encV k n).length) := by
  induction k with
  | zero =>
    intro n i acc more hi hn
    have h9 : i = 9 := by omega
    subst h9
    have h2 : n < 2 := by
      have : n * 2 ^ 63 < 2 * 2 ^ 63 := by simpa using hn
      exact Nat.lt_of_mul_lt_mul_right this
    simp only [encV, List.cons_append, List.nil_append, scanV, if_true]
    rw [if_pos (by omega)]
    simp
  | succ k ih =>
    intro n i acc more hi hn
    unfold encV
    by_cases h : n < 128
    · rw [if_pos h]
      simp only [List.cons_append, List.nil_append, scanV]
      rw [if_neg (by omega), if_pos (by omega)]
      simp
    · rw [if_neg h]
      simp only [List.cons_append, scanV]
      rw [if_neg (by omega), if_neg (by omega)]
      have e : ((n % 128 + 128 : Nat) : Int).toNat - 128 = n % 128 := by omega
      have hd : n = 128 * (n / 128) + n % 128 := by omega
      have hp : n * 2 ^ (7 * i) = (n / 128) * 2 ^ (7 * (i + 1)) + n % 128 * 2 ^ (7 * i) := by
        rw [pow7]
        conv => lhs; rw [hd, Nat.add_mul]
        rw [Nat.mul_comm 128 (n / 128), Nat.mul_assoc]
      rw [e, ih (n / 128) (i + 1) _ more (by omega) (by omega)]
      simp only [List.length_cons]
      refine congrArg some (Prod.ext ?_ ?_)
      · exact congrArg Int.ofNat (by rw [hp, Nat.add_assoc, Nat.add_comm (n % 128 * 2 ^ (7 * i))])
      · show ((i + 1 : Nat) : Int) + _ = _
        omega
/-- What was read is no longer than what there is, and its bytes stand at the head. -/
theorem scanV_size : ∀ (l : List Int) (i acc : Nat) (v n : Int), i ≤ 9 → scanV i acc l = some (v, n) → (i : Int) < n ∧ n ≤ 10 ∧ n ≤ (i : Int) + l.length ∧ 0 ≤ v := by
  intro l
  induction l with
  | nil => intro i acc v n _ h; simp [scanV] at h
  | cons b l ih =>
    intro i acc v n hi h
    unfold scanV at h
    split at h
    · split at h
      · simp only [Option.some.injEq, Prod.mk.injEq] at h
        simp
        omega
      · simp at h
    · split at h
      · simp only [Option.some.injEq, Prod.mk.injEq] at h
        simp
        omega
      · have := ih _ _ _ _ (by omega) h
        simp
        omega
/-- A number read from bytes reads the same whatever stands behind. -/
theorem scanV_more : ∀ (l m : List Int) (i acc : Nat) (r : Int × Int), scanV i acc l = some r → scanV i acc (l ++ m) = some r := by
  intro l
  induction l with
  | nil => intro m i acc r h; simp [scanV] at h
  | cons b l ih =>
    intro m i acc r h
    unfold scanV at h ⊢
    simp only [List.cons_append]
    split at h
    · rw [if_pos (by assumption)]; exact h
    · rw [if_neg (by assumption)]
      split at h
      · rw [if_pos (by assumption)]; exact h
      · rw [if_neg (by assumption)]; exact ih m _ _ r h
/-- A number that is cut is none. -/
theorem scanV_cut (k : Nat) : ∀ (n i acc m : Nat), i + k ≤ 9 → m < (encV k n).length → scanV i acc ((encV k n).take m) = none := by
  induction k with
  | zero =>
    intro n i acc m _ hm
    have : m = 0 := by simp [encV] at hm; exact hm
    subst this
    simp [scanV]
  | succ k ih =>
    intro n i acc m hi hm
    unfold encV at hm ⊢
    by_cases h : n < 128
    · rw [if_pos h] at hm ⊢
      have : m = 0 := by simp at hm; exact hm
      subst this
      simp [scanV]
    · rw [if_neg h] at hm ⊢
      cases m with
      | zero => simp [scanV]
      | succ m =>
        simp only [List.take_succ_cons, scanV]
        rw [if_neg (by omega), if_neg (by omega)]
        exact ih _ _ _ m (by omega) (by simpa using hm)
theorem uinfo : (Tryd.prog.info? 5).map (fun i => (i.zero, i.size, i.bytes)) = some (some (.int .u8 0), 1, 1) := by kernel_rfl
theorem wraps_u64 (n : Int) (h₀ : 0 ≤ n) (h₁ : n < 2 ^ 64) : IntKind.u64.wrap n = n := by
  simp [IntKind.wrap, IntKind.bits, IntKind.signed]
  omega
theorem low7 (x : Int) (h0 : 0 ≤ x) (h1 : x < 18446744073709551616) : bits .or .u64 (bits .and .u64 x 127) 128 % 256 = x % 128 + 128 := by
  have e1 : bits .and .u64 x 127 = x % 128 := bits_mask .u64 64 (by decide) wraps_u64 7 (by decide) x h0 h1
  rw [e1]
  have e2 : bits .or .u64 (x % 128) 128 = x % 128 + 128 := bits_join_low .u64 64 (by decide) wraps_u64 7 (x % 128) 128 (by omega) (by omega) (by omega) (by decide) (by decide) (by decide)
  rw [e2]
  omega
/-- The bytes of a number as the code writes them: so many with a sign behind which more come, then the last one. -/
def raws (n : Nat) : Nat → Nat → List Value
  | _, 0 => []
  | d, k + 1 => Value.int .u8 (bits .or .u64 (bits .and .u64 ((n : Int) / (d : Int)) 127) 128 % 256) :: raws n (128 * d) k
set_option maxHeartbeats 8000000 in
set_option maxRecDepth 100000 in
theorem enc_walk0 (n : Nat) (hn : 0 ≤ n) (hn2 : n < 128) (w : World) :
    Calls Tryd.prog 54 #[.int .u64 (n : Int)] w fun e w' => ∃ v', e = .returned v' ∧ w'.ownsRow w.heap.size 5 1 v' 1 (nums .u8 [(n : Int)]) ∧ Below w.heap.size w w' := by
  obtain ⟨i0, hi0, hz0, hz1, hz2⟩ := info_parts uinfo
  have c0 : decide ((n : Int) < 128) = true := decide_eq_true (by omega)
  have e0 : (n : Int) % 256 = (n : Int) := by omega
  have E0 := Aside0.mk e0
  clear hn hn2 e0
  go_enter Tryd.func54, Tryd.ntmps54
  go_wp2_with (first | (at_make; refine wpList_make_own _ rfl _ _ 22 rfl w.heap.size 5 i0 (.int .u8 0) 1 Tryd.underlying22 hi0 hz0 hz1 .i64 .i64 _ 10 rfl rfl rfl (by rw [hz2]; omega) (by unfold maxLen; omega) (Nat.le_refl _) ?_))
  intro w1 ho1 hg1
  go_wp2_with (first | (at_builtin; refine wpList_append_own _ rfl _ _ 22 rfl w.heap.size 5 i0 (.int .u8 0) 1 1 Tryd.underlying22 hi0 hz0 hz1 hz2 rfl (by decide) _ 0 [] rfl (ho1.alloc _) ⟨w1.heap.size, 0, none⟩ 1 1 [.int .u8 ((n : Int) % 256)] rfl rfl ?c1 ?c2 ?c3 ?c4 ?c5 ?_))
  case c1 => exact World.news_of_block (cs := #[.int .u8 ((n : Int) % 256)]) (heap_alloc_new w1 _)
  case c2 =>
    intro u hu
    simp only [List.mem_cons, List.not_mem_nil, or_false] at hu
    rcases hu with rfl <;> rfl
  case c3 => unfold maxLen; decide
  case c4 => decide
  case c5 => exact Nat.le_trans hg1.size (Nat.le_of_lt (by show w1.heap.size < (w1.heap.push _).size; rw [Array.size_push]; exact Nat.lt_succ_self _))
  intro v2 w2 ho2 hg2 _
  have hr2 : ∀ k, (Value.slice (some ⟨w.heap.size, 0, none⟩) 0 10).ownBlock = some k → w.heap.size ≤ k := fun k hk => (ho1.lt k hk).1
  have hb1 := (Below.refl w.heap.size w).grown hg1 (Nat.le_refl _) (fun k hk => by simp at hk)
  have hb2 := (hb1.alloc hg1.size (.cells #[.int .u8 ((n : Int) % 256)] 5)).grown hg2 (Nat.le_trans hg1.size (Nat.le_of_lt (by show w1.heap.size < (w1.heap.push _).size; rw [Array.size_push]; exact Nat.lt_succ_self _))) hr2
  have HO := Aside0.mk ho2
  have HB := Aside0.mk hb2
  clear ho2 hb2 hb1 hg1 hg2 ho1
  go_wp2_with fail
  go_ret
  refine ⟨_, rfl, ?_, HB.out⟩
  have h := HO.out
  try simp only [List.nil_append] at h
  rw [E0.out] at h
  exact h
set_option maxHeartbeats 8000000 in
set_option maxRecDepth 100000 in
theorem enc_walk1 (n : Nat) (hn : 128 ≤ n) (hn2 : n < 16384) (w : World) :
    Calls Tryd.prog 54 #[.int .u64 (n : Int)] w fun e w' => ∃ v', e = .returned v' ∧ w'.ownsRow w.heap.size 5 1 v' 2 (nums .u8 [(n : Int) % 128 + 128, (n : Int) / 128]) ∧ Below w.heap.size w w' := by
  obtain ⟨i0, hi0, hz0, hz1, hz2⟩ := info_parts uinfo
  have c0 : decide ((n : Int) < 128) = false := decide_eq_false (by omega)
  have c1 : decide ((n : Int) < 16384) = true := decide_eq_true (by omega)
  have e0 : bits .or .u64 (bits .and .u64 (n : Int) 127) 128 % 256 = (n : Int) % 128 + 128 := low7 _ (by omega) (by omega)
  have e1 : ((n : Int) / 128) % 256 = (n : Int) / 128 := by omega
  have E0 := Aside0.mk e0
  have E1 := Aside0.mk e1
  clear hn hn2 e0 e1
  go_enter Tryd.func54, Tryd.ntmps54
  go_wp2_with (first | (at_make; refine wpList_make_own _ rfl _ _ 22 rfl w.heap.size 5 i0 (.int .u8 0) 1 Tryd.underlying22 hi0 hz0 hz1 .i64 .i64 _ 10 rfl rfl rfl (by rw [hz2]; omega) (by unfold maxLen; omega) (Nat.le_refl _) ?_))
  intro w1 ho1 hg1
  go_wp2_with (first | (at_builtin; refine wpList_append_own _ rfl _ _ 22 rfl w.heap.size 5 i0 (.int .u8 0) 1 1 Tryd.underlying22 hi0 hz0 hz1 hz2 rfl (by decide) _ 0 [] rfl (ho1.alloc _) ⟨w1.heap.size, 0, none⟩ 2 2 [.int .u8 (bits .or .u64 (bits .and .u64 (n : Int) 127) 128 % 256), .int .u8 (((n : Int) / 128) % 256)] rfl rfl ?c1 ?c2 ?c3 ?c4 ?c5 ?_))
  case c1 => exact World.news_of_block (cs := #[.int .u8 (bits .or .u64 (bits .and .u64 (n : Int) 127) 128 % 256), .int .u8 (((n : Int) / 128) % 256)]) (heap_alloc_new w1 _)
  case c2 =>
    intro u hu
    simp only [List.mem_cons, List.not_mem_nil, or_false] at hu
    rcases hu with rfl | rfl <;> rfl
  case c3 => unfold maxLen; decide
  case c4 => decide
  case c5 => exact Nat.le_trans hg1.size (Nat.le_of_lt (by show w1.heap.size < (w1.heap.push _).size; rw [Array.size_push]; exact Nat.lt_succ_self _))
  intro v2 w2 ho2 hg2 _
  have hr2 : ∀ k, (Value.slice (some ⟨w.heap.size, 0, none⟩) 0 10).ownBlock = some k → w.heap.size ≤ k := fun k hk => (ho1.lt k hk).1
  have hb1 := (Below.refl w.heap.size w).grown hg1 (Nat.le_refl _) (fun k hk => by simp at hk)
  have hb2 := (hb1.alloc hg1.size (.cells #[.int .u8 (bits .or .u64 (bits .and .u64 (n : Int) 127) 128 % 256), .int .u8 (((n : Int) / 128) % 256)] 5)).grown hg2 (Nat.le_trans hg1.size (Nat.le_of_lt (by show w1.heap.size < (w1.heap.push _).size; rw [Array.size_push]; exact Nat.lt_succ_self _))) hr2
  have HO := Aside0.mk ho2
  have HB := Aside0.mk hb2
  clear ho2 hb2 hb1 hg1 hg2 ho1
  go_wp2_with fail
  go_ret
  refine ⟨_, rfl, ?_, HB.out⟩
  have h := HO.out
  try simp only [List.nil_append] at h
  rw [E0.out, E1.out] at h
  exact h
set_option maxHeartbeats 8000000 in
set_option maxRecDepth 100000 in
theorem enc_walk2 (n : Nat) (hn : 16384 ≤ n) (hn2 : n < 2097152) (w : World) :
    Calls Tryd.prog 54 #[.int .u64 (n : Int)] w fun e w' => ∃ v', e = .returned v' ∧ w'.ownsRow w.heap.size 5 1 v' 3 (nums .u8 [(n : Int) % 128 + 128, ((n : Int) / 128) % 128 + 128, (n : Int) / 16384]) ∧ Below w.heap.size w w' := by
  obtain ⟨i0, hi0, hz0, hz1, hz2⟩ := info_parts uinfo
  have c0 : decide ((n : Int) < 128) = false := decide_eq_false (by omega)
  have c1 : decide ((n : Int) < 16384) = false := decide_eq_false (by omega)
  have c2 : decide ((n : Int) < 2097152) = true := decide_eq_true (by omega)
  have e0 : bits .or .u64 (bits .and .u64 (n : Int) 127) 128 % 256 = (n : Int) % 128 + 128 := low7 _ (by omega) (by omega)
  have e1 : bits .or .u64 (bits .and .u64 ((n : Int) / 128) 127) 128 % 256 = ((n : Int) / 128) % 128 + 128 := low7 _ (by omega) (by omega)
  have e2 : ((n : Int) / 16384) % 256 = (n : Int) / 16384 := by omega
  have E0 := Aside0.mk e0
  have E1 := Aside0.mk e1
  have E2 := Aside0.mk e2
  clear hn hn2 e0 e1 e2
  go_enter Tryd.func54, Tryd.ntmps54
  go_wp2_with (first | (at_make; refine wpList_make_own _ rfl _ _ 22 rfl w.heap.size 5 i0 (.int .u8 0) 1 Tryd.underlying22 hi0 hz0 hz1 .i64 .i64 _ 10 rfl rfl rfl (by rw [hz2]; omega) (by unfold maxLen; omega) (Nat.le_refl _) ?_))
  intro w1 ho1 hg1
  go_wp2_with (first | (at_builtin; refine wpList_append_own _ rfl _ _ 22 rfl w.heap.size 5 i0 (.int .u8 0) 1 1 Tryd.underlying22 hi0 hz0 hz1 hz2 rfl (by decide) _ 0 [] rfl (ho1.alloc _) ⟨w1.heap.size, 0, none⟩ 3 3 [.int .u8 (bits .or .u64 (bits .and .u64 (n : Int) 127) 128 % 256), .int .u8 (bits .or .u64 (bits .and .u64 ((n : Int) / 128) 127) 128 % 256), .int .u8 (((n : Int) / 16384) % 256)] rfl rfl ?c1 ?c2 ?c3 ?c4 ?c5 ?_))
  case c1 => exact World.news_of_block (cs := #[.int .u8 (bits .or .u64 (bits .and .u64 (n : Int) 127) 128 % 256), .int .u8 (bits .or .u64 (bits .and .u64 ((n : Int) / 128) 127) 128 % 256), .int .u8 (((n : Int) / 16384) % 256)]) (heap_alloc_new w1 _)
  case c2 =>
    intro u hu
    simp only [List.mem_cons, List.not_mem_nil, or_false] at hu
    rcases hu with rfl | rfl | rfl <;> rfl
  case c3 => unfold maxLen; decide
  case c4 => decide
  case c5 => exact Nat.le_trans hg1.size (Nat.le_of_lt (by show w1.heap.size < (w1.heap.push _).size; rw [Array.size_push]; exact Nat.lt_succ_self _))
  intro v2 w2 ho2 hg2 _
  have hr2 : ∀ k, (Value.slice (some ⟨w.heap.size, 0, none⟩) 0 10).ownBlock = some k → w.heap.size ≤ k := fun k hk => (ho1.lt k hk).1
  have hb1 := (Below.refl w.heap.size w).grown hg1 (Nat.le_refl _) (fun k hk => by simp at hk)
  have hb2 := (hb1.alloc hg1.size (.cells #[.int .u8 (bits .or .u64 (bits .and .u64 (n : Int) 127) 128 % 256), .int .u8 (bits .or .u64 (bits .and .u64 ((n : Int) / 128) 127) 128 % 256), .int .u8 (((n : Int) / 16384) % 256)] 5)).grown hg2 (Nat.le_trans hg1.size (Nat.le_of_lt (by show w1.heap.size < (w1.heap.push _).size; rw [Array.size_push]; exact Nat.lt_succ_self _))) hr2
  have HO := Aside0.mk ho2
  have HB := Aside0.mk hb2
  clear ho2 hb2 hb1 hg1 hg2 ho1
  go_wp2_with fail
  go_ret
  refine ⟨_, rfl, ?_, HB.out⟩
  have h := HO.out
  try simp only [List.nil_append] at h
  rw [E0.out, E1.out, E2.out] at h
  exact h
set_option maxHeartbeats 8000000 in
set_option maxRecDepth 100000 in
theorem enc_walk3 (n : Nat) (hn : 2097152 ≤ n) (hn2 : n < 268435456) (w : World) :
    Calls Tryd.prog 54 #[.int .u64 (n : Int)] w fun e w' => ∃ v', e = .returned v' ∧ w'.ownsRow w.heap.size 5 1 v' 4 (nums .u8 [(n : Int) % 128 + 128, ((n : Int) / 128) % 128 + 128, ((n : Int) / 16384) % 128 + 128, (n : Int) / 2097152]) ∧ Below w.heap.size w w' := by
  obtain ⟨i0, hi0, hz0, hz1, hz2⟩ := info_parts uinfo
  have c0 : decide ((n : Int) < 128) = false := decide_eq_false (by omega)
  have c1 : decide ((n : Int) < 16384) = false := decide_eq_false (by omega)
  have c2 : decide ((n : Int) < 2097152) = false := decide_eq_false (by omega)
  have c3 : decide ((n : Int) < 268435456) = true := decide_eq_true (by omega)
  have e0 : bits .or .u64 (bits .and .u64 (n : Int) 127) 128 % 256 = (n : Int) % 128 + 128 := low7 _ (by omega) (by omega)
  have e1 : bits .or .u64 (bits .and .u64 ((n : Int) / 128) 127) 128 % 256 = ((n : Int) / 128) % 128 + 128 := low7 _ (by omega) (by omega)
  have e2 : bits .or .u64 (bits .and .u64 ((n : Int) / 16384) 127) 128 % 256 = ((n : Int) / 16384) % 128 + 128 := low7 _ (by omega) (by omega)
  have e3 : ((n : Int) / 2097152) % 256 = (n : Int) / 2097152 := by omega
  have E0 := Aside0.mk e0
  have E1 := Aside0.mk e1
  have E2 := Aside0.mk e2
  have E3 := Aside0.mk e3
  clear hn hn2 e0 e1 e2 e3
  go_enter Tryd.func54, Tryd.ntmps54
  go_wp2_with (first | (at_make; refine wpList_make_own _ rfl _ _ 22 rfl w.heap.size 5 i0 (.int .u8 0) 1 Tryd.underlying22 hi0 hz0 hz1 .i64 .i64 _ 10 rfl rfl rfl (by rw [hz2]; omega) (by unfold maxLen; omega) (Nat.le_refl _) ?_))
  intro w1 ho1 hg1
  go_wp2_with (first | (at_builtin; refine wpList_append_own _ rfl _ _ 22 rfl w.heap.size 5 i0 (.int .u8 0) 1 1 Tryd.underlying22 hi0 hz0 hz1 hz2 rfl (by decide) _ 0 [] rfl (ho1.alloc _) ⟨w1.heap.size, 0, none⟩ 4 4 [.int .u8 (bits .or .u64 (bits .and .u64 (n : Int) 127) 128 % 256), .int .u8 (bits .or .u64 (bits .and .u64 ((n : Int) / 128) 127) 128 % 256), .int .u8 (bits .or .u64 (bits .and .u64 ((n : Int) / 16384) 127) 128 % 256), .int .u8 (((n : Int) / 2097152) % 256)] rfl rfl ?c1 ?c2 ?c3 ?c4 ?c5 ?_))
  case c1 => exact World.news_of_block (cs := #[.int .u8 (bits .or .u64 (bits .and .u64 (n : Int) 127) 128 % 256), .int .u8 (bits .or .u64 (bits .and .u64 ((n : Int) / 128) 127) 128 % 256), .int .u8 (bits .or .u64 (bits .and .u64 ((n : Int) / 16384) 127) 128 % 256), .int .u8 (((n : Int) / 2097152) % 256)]) (heap_alloc_new w1 _)
  case c2 =>
    intro u hu
    simp only [List.mem_cons, List.not_mem_nil, or_false] at hu
    rcases hu with rfl | rfl | rfl | rfl <;> rfl
  case c3 => unfold maxLen; decide
  case c4 => decide
  case c5 => exact Nat.le_trans hg1.size (Nat.le_of_lt (by show w1.heap.size < (w1.heap.push _).size; rw [Array.size_push]; exact Nat.lt_succ_self _))
  intro v2 w2 ho2 hg2 _
  have hr2 : ∀ k, (Value.slice (some ⟨w.heap.size, 0, none⟩) 0 10).ownBlock = some k → w.heap.size ≤ k := fun k hk => (ho1.lt k hk).1
  have hb1 := (Below.refl w.heap.size w).grown hg1 (Nat.le_refl _) (fun k hk => by simp at hk)
  have hb2 := (hb1.alloc hg1.size (.cells #[.int .u8 (bits .or .u64 (bits .and .u64 (n : Int) 127) 128 % 256), .int .u8 (bits .or .u64 (bits .and .u64 ((n : Int) / 128) 127) 128 % 256), .int .u8 (bits .or .u64 (bits .and .u64 ((n : Int) / 16384) 127) 128 % 256), .int .u8 (((n : Int) / 2097152) % 256)] 5)).grown hg2 (Nat.le_trans hg1.size (Nat.le_of_lt (by show w1.heap.size < (w1.heap.push _).size; rw [Array.size_push]; exact Nat.lt_succ_self _))) hr2
  have HO := Aside0.mk ho2
  have HB := Aside0.mk hb2
  clear ho2 hb2 hb1 hg1 hg2 ho1
  go_wp2_with fail
  go_ret
  refine ⟨_, rfl, ?_, HB.out⟩
  have h := HO.out
  try simp only [List.nil_append] at h
  rw [E0.out, E1.out, E2.out, E3.out] at h
  exact h
set_option maxHeartbeats 8000000 in
set_option maxRecDepth 100000 in
theorem enc_walk4 (n : Nat) (hn : 268435456 ≤ n) (hn2 : n < 34359738368) (w : World) :
    Calls Tryd.prog 54 #[.int .u64 (n : Int)] w fun e w' => ∃ v', e = .returned v' ∧ w'.ownsRow w.heap.size 5 1 v' 5 (nums .u8 [(n : Int) % 128 + 128, ((n : Int) / 128) % 128 + 128, ((n : Int) / 16384) % 128 + 128, ((n : Int) / 2097152) % 128 + 128, (n : Int) / 268435456]) ∧ Below w.heap.size w w' := by
  obtain ⟨i0, hi0, hz0, hz1, hz2⟩ := info_parts uinfo
  have c0 : decide ((n : Int) < 128) = false := decide_eq_false (by omega)
  have c1 : decide ((n : Int) < 16384) = false := decide_eq_false (by omega)
  have c2 : decide ((n : Int) < 2097152) = false := decide_eq_false (by omega)
  have c3 : decide ((n : Int) < 268435456) = false := decide_eq_false (by omega)
  have c4 : decide ((n : Int) < 34359738368) = true := decide_eq_true (by omega)
  have e0 : bits .or .u64 (bits .and .u64 (n : Int) 127) 128 % 256 = (n : Int) % 128 + 128 := low7 _ (by omega) (by omega)
  have e1 : bits .or .u64 (bits .and .u64 ((n : Int) / 128) 127) 128 % 256 = ((n : Int) / 128) % 128 + 128 := low7 _ (by omega) (by omega)
  have e2 : bits .or .u64 (bits .and .u64 ((n : Int) / 16384) 127) 128 % 256 = ((n : Int) / 16384) % 128 + 128 := low7 _ (by omega) (by omega)
  have e3 : bits .or .u64 (bits .and .u64 ((n : Int) / 2097152) 127) 128 % 256 = ((n : Int) / 2097152) % 128 + 128 := low7 _ (by omega) (by omega)
  have e4 : ((n : Int) / 268435456) % 256 = (n : Int) / 268435456 := by omega
  have E0 := Aside0.mk e0
  have E1 := Aside0.mk e1
  have E2 := Aside0.mk e2
  have E3 := Aside0.mk e3
  have E4 := Aside0.mk e4
  clear hn hn2 e0 e1 e2 e3 e4
  go_enter Tryd.func54, Tryd.ntmps54
  go_wp2_with (first | (at_make; refine wpList_make_own _ rfl _ _ 22 rfl w.heap.size 5 i0 (.int .u8 0) 1 Tryd.underlying22 hi0 hz0 hz1 .i64 .i64 _ 10 rfl rfl rfl (by rw [hz2]; omega) (by unfold maxLen; omega) (Nat.le_refl _) ?_))
  intro w1 ho1 hg1
  go_wp2_with (first | (at_builtin; refine wpList_append_own _ rfl _ _ 22 rfl w.heap.size 5 i0 (.int .u8 0) 1 1 Tryd.underlying22 hi0 hz0 hz1 hz2 rfl (by decide) _ 0 [] rfl (ho1.alloc _) ⟨w1.heap.size, 0, none⟩ 5 5 [.int .u8 (bits .or .u64 (bits .and .u64 (n : Int) 127) 128 % 256), .int .u8 (bits .or .u64 (bits .and .u64 ((n : Int) / 128) 127) 128 % 256), .int .u8 (bits .or .u64 (bits .and .u64 ((n : Int) / 16384) 127) 128 % 256), .int .u8 (bits .or .u64 (bits .and .u64 ((n : Int) / 2097152) 127) 128 % 256), .int .u8 (((n : Int) / 268435456) % 256)] rfl rfl ?c1 ?c2 ?c3 ?c4 ?c5 ?_))
  case c1 => exact World.news_of_block (cs := #[.int .u8 (bits .or .u64 (bits .and .u64 (n : Int) 127) 128 % 256), .int .u8 (bits .or .u64 (bits .and .u64 ((n : Int) / 128) 127) 128 % 256), .int .u8 (bits .or .u64 (bits .and .u64 ((n : Int) / 16384) 127) 128 % 256), .int .u8 (bits .or .u64 (bits .and .u64 ((n : Int) / 2097152) 127) 128 % 256), .int .u8 (((n : Int) / 268435456) % 256)]) (heap_alloc_new w1 _)
  case c2 =>
    intro u hu
    simp only [List.mem_cons, List.not_mem_nil, or_false] at hu
    rcases hu with rfl | rfl | rfl | rfl | rfl <;> rfl
  case c3 => unfold maxLen; decide
  case c4 => decide
  case c5 => exact Nat.le_trans hg1.size (Nat.le_of_lt (by show w1.heap.size < (w1.heap.push _).size; rw [Array.size_push]; exact Nat.lt_succ_self _))
  intro v2 w2 ho2 hg2 _
  have hr2 : ∀ k, (Value.slice (some ⟨w.heap.size, 0, none⟩) 0 10).ownBlock = some k → w.heap.size ≤ k := fun k hk => (ho1.lt k hk).1
  have hb1 := (Below.refl w.heap.size w).grown hg1 (Nat.le_refl _) (fun k hk => by simp at hk)
  have hb2 := (hb1.alloc hg1.size (.cells #[.int .u8 (bits .or .u64 (bits .and .u64 (n : Int) 127) 128 % 256), .int .u8 (bits .or .u64 (bits .and .u64 ((n : Int) / 128) 127) 128 % 256), .int .u8 (bits .or .u64 (bits .and .u64 ((n : Int) / 16384) 127) 128 % 256), .int .u8 (bits .or .u64 (bits .and .u64 ((n : Int) / 2097152) 127) 128 % 256), .int .u8 (((n : Int) / 268435456) % 256)] 5)).grown hg2 (Nat.le_trans hg1.size (Nat.le_of_lt (by show w1.heap.size < (w1.heap.push _).size; rw [Array.size_push]; exact Nat.lt_succ_self _))) hr2
  have HO := Aside0.mk ho2
  have HB := Aside0.mk hb2
  clear ho2 hb2 hb1 hg1 hg2 ho1
  go_wp2_with fail
  go_ret
  refine ⟨_, rfl, ?_, HB.out⟩
  have h := HO.out
  try simp only [List.nil_append] at h
  rw [E0.out, E1.out, E2.out, E3.out, E4.out] at h
  exact h
set_option maxHeartbeats 8000000 in
set_option maxRecDepth 100000 in
theorem enc_walk5 (n : Nat) (hn : 34359738368 ≤ n) (hn2 : n < 4398046511104) (w : World) :
    Calls Tryd.prog 54 #[.int .u64 (n : Int)] w fun e w' => ∃ v', e = .returned v' ∧ w'.ownsRow w.heap.size 5 1 v' 6 (nums .u8 [(n : Int) % 128 + 128, ((n : Int) / 128) % 128 + 128, ((n : Int) / 16384) % 128 + 128, ((n : Int) / 2097152) % 128 + 128, ((n : Int) / 268435456) % 128 + 128, (n : Int) / 34359738368]) ∧ Below w.heap.size w w' := by
  obtain ⟨i0, hi0, hz0, hz1, hz2⟩ := info_parts uinfo
  have c0 : decide ((n : Int) < 128) = false := decide_eq_false (by omega)
  have c1 : decide ((n : Int) < 16384) = false := decide_eq_false (by omega)
  have c2 : decide ((n : Int) < 2097152) = false := decide_eq_false (by omega)
  have c3 : decide ((n : Int) < 268435456) = false := decide_eq_false (by omega)
  have c4 : decide ((n : Int) < 34359738368) = false := decide_eq_false (by omega)
  have c5 : decide ((n : Int) < 4398046511104) = true := decide_eq_true (by omega)
  have e0 : bits .or .u64 (bits .and .u64 (n : Int) 127) 128 % 256 = (n : Int) % 128 + 128 := low7 _ (by omega) (by omega)
  have e1 : bits .or .u64 (bits .and .u64 ((n : Int) / 128) 127) 128 % 256 = ((n : Int) / 128) % 128 + 128 := low7 _ (by omega) (by omega)
  have e2 : bits .or .u64 (bits .and .u64 ((n : Int) / 16384) 127) 128 % 256 = ((n : Int) / 16384) % 128 + 128 := low7 _ (by omega) (by omega)
  have e3 : bits .or .u64 (bits .and .u64 ((n : Int) / 2097152) 127) 128 % 256 = ((n : Int) / 2097152) % 128 + 128 := low7 _ (by omega) (by omega)
  have e4 : bits .or .u64 (bits .and .u64 ((n : Int) / 268435456) 127) 128 % 256 = ((n : Int) / 268435456) % 128 + 128 := low7 _ (by omega) (by omega)
  have e5 : ((n : Int) / 34359738368) % 256 = (n : Int) / 34359738368 := by omega
  have E0 := Aside0.mk e0
  have E1 := Aside0.mk e1
  have E2 := Aside0.mk e2
  have E3 := Aside0.mk e3
  have E4 := Aside0.mk e4
  have E5 := Aside0.mk e5
  clear hn hn2 e0 e1 e2 e3 e4 e5
  go_enter Tryd.func54, Tryd.ntmps54
  go_wp2_with (first | (at_make; refine wpList_make_own _ rfl _ _ 22 rfl w.heap.size 5 i0 (.int .u8 0) 1 Tryd.underlying22 hi0 hz0 hz1 .i64 .i64 _ 10 rfl rfl rfl (by rw [hz2]; omega) (by unfold maxLen; omega) (Nat.le_refl _) ?_))
  intro w1 ho1 hg1
  go_wp2_with (first | (at_builtin; refine wpList_append_own _ rfl _ _ 22 rfl w.heap.size 5 i0 (.int .u8 0) 1 1 Tryd.underlying22 hi0 hz0 hz1 hz2 rfl (by decide) _ 0 [] rfl (ho1.alloc _) ⟨w1.heap.size, 0, none⟩ 6 6 [.int .u8 (bits .or .u64 (bits .and .u64 (n : Int) 127) 128 % 256), .int .u8 (bits .or .u64 (bits .and .u64 ((n : Int) / 128) 127) 128 % 256), .int .u8 (bits .or .u64 (bits .and .u64 ((n : Int) / 16384) 127) 128 % 256), .int .u8 (bits .or .u64 (bits .and .u64 ((n : Int) / 2097152) 127) 128 % 256), .int .u8 (bits .or .u64 (bits .and .u64 ((n : Int) / 268435456) 127) 128 % 256), .int .u8 (((n : Int) / 34359738368) % 256)] rfl rfl ?c1 ?c2 ?c3 ?c4 ?c5 ?_))
  case c1 => exact World.news_of_block (cs := #[.int .u8 (bits .or .u64 (bits .and .u64 (n : Int) 127) 128 % 256), .int .u8 (bits .or .u64 (bits .and .u64 ((n : Int) / 128) 127) 128 % 256), .int .u8 (bits .or .u64 (bits .and .u64 ((n : Int) / 16384) 127) 128 % 256), .int .u8 (bits .or .u64 (bits .and .u64 ((n : Int) / 2097152) 127) 128 % 256), .int .u8 (bits .or .u64 (bits .and .u64 ((n : Int) / 268435456) 127) 128 % 256), .int .u8 (((n : Int) / 34359738368) % 256)]) (heap_alloc_new w1 _)
  case c2 =>
    intro u hu
    simp only [List.mem_cons, List.not_mem_nil, or_false] at hu
    rcases hu with rfl | rfl | rfl | rfl | rfl | rfl <;> rfl
  case c3 => unfold maxLen; decide
  case c4 => decide
  case c5 => exact Nat.le_trans hg1.size (Nat.le_of_lt (by show w1.heap.size < (w1.heap.push _).size; rw [Array.size_push]; exact Nat.lt_succ_self _))
  intro v2 w2 ho2 hg2 _
  have hr2 : ∀ k, (Value.slice (some ⟨w.heap.size, 0, none⟩) 0 10).ownBlock = some k → w.heap.size ≤ k := fun k hk => (ho1.lt k hk).1
  have hb1 := (Below.refl w.heap.size w).grown hg1 (Nat.le_refl _) (fun k hk => by simp at hk)
  have hb2 := (hb1.alloc hg1.size (.cells #[.int .u8 (bits .or .u64 (bits .and .u64 (n : Int) 127) 128 % 256), .int .u8 (bits .or .u64 (bits .and .u64 ((n : Int) / 128) 127) 128 % 256), .int .u8 (bits .or .u64 (bits .and .u64 ((n : Int) / 16384) 127) 128 % 256), .int .u8 (bits .or .u64 (bits .and .u64 ((n : Int) / 2097152) 127) 128 % 256), .int .u8 (bits .or .u64 (bits .and .u64 ((n : Int) / 268435456) 127) 128 % 256), .int .u8 (((n : Int) / 34359738368) % 256)] 5)).grown hg2 (Nat.le_trans hg1.size (Nat.le_of_lt (by show w1.heap.size < (w1.heap.push _).size; rw [Array.size_push]; exact Nat.lt_succ_self _))) hr2
  have HO := Aside0.mk ho2
  have HB := Aside0.mk hb2
  clear ho2 hb2 hb1 hg1 hg2 ho1
  go_wp2_with fail
  go_ret
  refine ⟨_, rfl, ?_, HB.out⟩
  have h := HO.out
  try simp only [List.nil_append] at h
  rw [E0.out, E1.out, E2.out, E3.out, E4.out, E5.out] at h
  exact h
set_option maxHeartbeats 8000000 in
set_option maxRecDepth 100000 in
theorem enc_walk6 (n : Nat) (hn : 4398046511104 ≤ n) (hn2 : n < 562949953421312) (w : World) :
    Calls Tryd.prog 54 #[.int .u64 (n : Int)] w fun e w' => ∃ v', e = .returned v' ∧ w'.ownsRow w.heap.size 5 1 v' 7 (nums .u8 [(n : Int) % 128 + 128, ((n : Int) / 128) % 128 + 128, ((n : Int) / 16384) % 128 + 128, ((n : Int) / 2097152) % 128 + 128, ((n : Int) / 268435456) % 128 + 128, ((n : Int) / 34359738368) % 128 + 128, (n : Int) / 4398046511104]) ∧ Below w.heap.size w w' := by
  obtain ⟨i0, hi0, hz0, hz1, hz2⟩ := info_parts uinfo
  have c0 : decide ((n : Int) < 128) = false := decide_eq_false (by omega)
  have c1 : decide ((n : Int) < 16384) = false := decide_eq_false (by omega)
  have c2 : decide ((n : Int) < 2097152) = false := decide_eq_false (by omega)
  have c3 : decide ((n : Int) < 268435456) = false := decide_eq_false (by omega)
  have c4 : decide ((n : Int) < 34359738368) = false := decide_eq_false (by omega)
  have c5 : decide ((n : Int) < 4398046511104) = false := decide_eq_false (by omega)
  have c6 : decide ((n : Int) < 562949953421312) = true := decide_eq_true (by omega)
  have e0 : bits .or .u64 (bits .and .u64 (n : Int) 127) 128 % 256 = (n : Int) % 128 + 128 := low7 _ (by omega) (by omega)
  have e1 : bits .or .u64 (bits .and .u64 ((n : Int) / 128) 127) 128 % 256 = ((n : Int) / 128) % 128 + 128 := low7 _ (by omega) (by omega)
  have e2 : bits .or .u64 (bits .and .u64 ((n : Int) / 16384) 127) 128 % 256 = ((n : Int) / 16384) % 128 + 128 := low7 _ (by omega) (by omega)
  have e3 : bits .or .u64 (bits .and .u64 ((n : Int) / 2097152) 127) 128 % 256 = ((n : Int) / 2097152) % 128 + 128 := low7 _ (by omega) (by omega)
  have e4 : bits .or .u64 (bits .and .u64 ((n : Int) / 268435456) 127) 128 % 256 = ((n : Int) / 268435456) % 128 + 128 := low7 _ (by omega) (by omega)
  have e5 : bits .or .u64 (bits .and .u64 ((n : Int) / 34359738368) 127) 128 % 256 = ((n : Int) / 34359738368) % 128 + 128 := low7 _ (by omega) (by omega)
  have e6 : ((n : Int) / 4398046511104) % 256 = (n : Int) / 4398046511104 := by omega
  have E0 := Aside0.mk e0
  have E1 := Aside0.mk e1
  have E2 := Aside0.mk e2
  have E3 := Aside0.mk e3
  have E4 := Aside0.mk e4
  have E5 := Aside0.mk e5
  have E6 := Aside0.mk e6
  clear hn hn2 e0 e1 e2 e3 e4 e5 e6
  go_enter Tryd.func54, Tryd.ntmps54
  go_wp2_with (first | (at_make; refine wpList_make_own _ rfl _ _ 22 rfl w.heap.size 5 i0 (.int .u8 0) 1 Tryd.underlying22 hi0 hz0 hz1 .i64 .i64 _ 10 rfl rfl rfl (by rw [hz2]; omega) (by unfold maxLen; omega) (Nat.le_refl _) ?_))
  intro w1 ho1 hg1
  go_wp2_with (first | (at_builtin; refine wpList_append_own _ rfl _ _ 22 rfl w.heap.size 5 i0 (.int .u8 0) 1 1 Tryd.underlying22 hi0 hz0 hz1 hz2 rfl (by decide) _ 0 [] rfl (ho1.alloc _) ⟨w1.heap.size, 0, none⟩ 7 7 [.int .u8 (bits .or .u64 (bits .and .u64 (n : Int) 127) 128 % 256), .int .u8 (bits .or .u64 (bits .and .u64 ((n : Int) / 128) 127) 128 % 256), .int .u8 (bits .or .u64 (bits .and .u64 ((n : Int) / 16384) 127) 128 % 256), .int .u8 (bits .or .u64 (bits .and .u64 ((n : Int) / 2097152) 127) 128 % 256), .int .u8 (bits .or .u64 (bits .and .u64 ((n : Int) / 268435456) 127) 128 % 256), .int .u8 (bits .or .u64 (bits .and .u64 ((n : Int) / 34359738368) 127) 128 % 256), .int .u8 (((n : Int) / 4398046511104) % 256)] rfl rfl ?c1 ?c2 ?c3 ?c4 ?c5 ?_))
  case c1 => exact World.news_of_block (cs := #[.int .u8 (bits .or .u64 (bits .and .u64 (n : Int) 127) 128 % 256), .int .u8 (bits .or .u64 (bits .and .u64 ((n : Int) / 128) 127) 128 % 256), .int .u8 (bits .or .u64 (bits .and .u64 ((n : Int) / 16384) 127) 128 % 256), .int .u8 (bits .or .u64 (bits .and .u64 ((n : Int) / 2097152) 127) 128 % 256), .int .u8 (bits .or .u64 (bits .and .u64 ((n : Int) / 268435456) 127) 128 % 256), .int .u8 (bits .or .u64 (bits .and .u64 ((n : Int) / 34359738368) 127) 128 % 256), .int .u8 (((n : Int) / 4398046511104) % 256)]) (heap_alloc_new w1 _)
  case c2 =>
    intro u hu
    simp only [List.mem_cons, List.not_mem_nil, or_false] at hu
    rcases hu with rfl | rfl | rfl | rfl | rfl | rfl | rfl <;> rfl
  case c3 => unfold maxLen; decide
  case c4 => decide
  case c5 => exact Nat.le_trans hg1.size (Nat.le_of_lt (by show w1.heap.size < (w1.heap.push _).size; rw [Array.size_push]; exact Nat.lt_succ_self _))
  intro v2 w2 ho2 hg2 _
  have hr2 : ∀ k, (Value.slice (some ⟨w.heap.size, 0, none⟩) 0 10).ownBlock = some k → w.heap.size ≤ k := fun k hk => (ho1.lt k hk).1
  have hb1 := (Below.refl w.heap.size w).grown hg1 (Nat.le_refl _) (fun k hk => by simp at hk)
  have hb2 := (hb1.alloc hg1.size (.cells #[.int .u8 (bits .or .u64 (bits .and .u64 (n : Int) 127) 128 % 256), .int .u8 (bits .or .u64 (bits .and .u64 ((n : Int) / 128) 127) 128 % 256), .int .u8 (bits .or .u64 (bits .and .u64 ((n : Int) / 16384) 127) 128 % 256), .int .u8 (bits .or .u64 (bits .and .u64 ((n : Int) / 2097152) 127) 128 % 256), .int .u8 (bits .or .u64 (bits .and .u64 ((n : Int) / 268435456) 127) 128 % 256), .int .u8 (bits .or .u64 (bits .and .u64 ((n : Int) / 34359738368) 127) 128 % 256), .int .u8 (((n : Int) / 4398046511104) % 256)] 5)).grown hg2 (Nat.le_trans hg1.size (Nat.le_of_lt (by show w1.heap.size < (w1.heap.push _).size; rw [Array.size_push]; exact Nat.lt_succ_self _))) hr2
  have HO := Aside0.mk ho2
  have HB := Aside0.mk hb2
  clear ho2 hb2 hb1 hg1 hg2 ho1
  go_wp2_with fail
  go_ret
  refine ⟨_, rfl, ?_, HB.out⟩
  have h := HO.out
  try simp only [List.nil_append] at h
  rw [E0.out, E1.out, E2.out, E3.out, E4.out, E5.out, E6.out] at h
  exact h
set_option maxHeartbeats 8000000 in
set_option maxRecDepth 100000 in
theorem enc_walk7 (n : Nat) (hn : 562949953421312 ≤ n) (hn2 : n < 72057594037927936) (w : World) :
    Calls Tryd.prog 54 #[.int .u64 (n : Int)] w fun e w' => ∃ v', e = .returned v' ∧ w'.ownsRow w.heap.size 5 1 v' 8 (nums .u8 [(n : Int) % 128 + 128, ((n : Int) / 128) % 128 + 128, ((n : Int) / 16384) % 128 + 128, ((n : Int) / 2097152) % 128 + 128, ((n : Int) / 268435456) % 128 + 128, ((n : Int) / 34359738368) % 128 + 128, ((n : Int) / 4398046511104) % 128 + 128, (n : Int) / 562949953421312]) ∧ Below w.heap.size w w' := by
  obtain ⟨i0, hi0, hz0, hz1, hz2⟩ := info_parts uinfo
  have c0 : decide ((n : Int) < 128) = false := decide_eq_false (by omega)
  have c1 : decide ((n : Int) < 16384) = false := decide_eq_false (by omega)
  have c2 : decide ((n : Int) < 2097152) = false := decide_eq_false (by omega)
  have c3 : decide ((n : Int) < 268435456) = false := decide_eq_false (by omega)
  have c4 : decide ((n : Int) < 34359738368) = false := decide_eq_false (by omega)
  have c5 : decide ((n : Int) < 4398046511104) = false := decide_eq_false (by omega)
  have c6 : decide ((n : Int) < 562949953421312) = false := decide_eq_false (by omega)
  have c7 : decide ((n : Int) < 72057594037927936) = true := decide_eq_true (by omega)
  have e0 : bits .or .u64 (bits .and .u64 (n : Int) 127) 128 % 256 = (n : Int) % 128 + 128 := low7 _ (by omega) (by omega)
  have e1 : bits .or .u64 (bits .and .u64 ((n : Int) / 128) 127) 128 % 256 = ((n : Int) / 128) % 128 + 128 := low7 _ (by omega) (by omega)
  have e2 : bits .or .u64 (bits .and .u64 ((n : Int) / 16384) 127) 128 % 256 = ((n : Int) / 16384) % 128 + 128 := low7 _ (by omega) (by omega)
  have e3 : bits .or .u64 (bits .and .u64 ((n : Int) / 2097152) 127) 128 % 256 = ((n : Int) / 2097152) % 128 + 128 := low7 _ (by omega) (by omega)
  have e4 : bits .or .u64 (bits .and .u64 ((n : Int) / 268435456) 127) 128 % 256 = ((n : Int) / 268435456) % 128 + 128 := low7 _ (by omega) (by omega)
  have e5 : bits .or .u64 (bits .and .u64 ((n : Int) / 34359738368) 127) 128 % 256 = ((n : Int) / 34359738368) % 128 + 128 := low7 _ (by omega) (by omega)
  have e6 : bits .or .u64 (bits .and .u64 ((n : Int) / 4398046511104) 127) 128 % 256 = ((n : Int) / 4398046511104) % 128 + 128 := low7 _ (by omega) (by omega)
  have e7 : ((n : Int) / 562949953421312) % 256 = (n : Int) / 562949953421312 := by omega
  have E0 := Aside0.mk e0
  have E1 := Aside0.mk e1
  have E2 := Aside0.mk e2
  have E3 := Aside0.mk e3
  have E4 := Aside0.mk e4
  have E5 := Aside0.mk e5
  have E6 := Aside0.mk e6
  have E7 := Aside0.mk e7
  clear hn hn2 e0 e1 e2 e3 e4 e5 e6 e7
  go_enter Tryd.func54, Tryd.ntmps54
  go_wp2_with (first | (at_make; refine wpList_make_own _ rfl _ _ 22 rfl w.heap.size 5 i0 (.int .u8 0) 1 Tryd.underlying22 hi0 hz0 hz1 .i64 .i64 _ 10 rfl rfl rfl (by rw [hz2]; omega) (by unfold maxLen; omega) (Nat.le_refl _) ?_))
  intro w1 ho1 hg1
  go_wp2_with (first | (at_builtin; refine wpList_append_own _ rfl _ _ 22 rfl w.heap.size 5 i0 (.int .u8 0) 1 1 Tryd.underlying22 hi0 hz0 hz1 hz2 rfl (by decide) _ 0 [] rfl (ho1.alloc _) ⟨w1.heap.size, 0, none⟩ 8 8 [.int .u8 (bits .or .u64 (bits .and .u64 (n : Int) 127) 128 % 256), .int .u8 (bits .or .u64 (bits .and .u64 ((n : Int) / 128) 127) 128 % 256), .int .u8 (bits .or .u64 (bits .and .u64 ((n : Int) / 16384) 127) 128 % 256), .int .u8 (bits .or .u64 (bits .and .u64 ((n : Int) / 2097152) 127) 128 % 256), .int .u8 (bits .or .u64 (bits .and .u64 ((n : Int) / 268435456) 127) 128 % 256), .int .u8 (bits .or .u64 (bits .and .u64 ((n : Int) / 34359738368) 127) 128 % 256), .int .u8 (bits .or .u64 (bits .and .u64 ((n : Int) / 4398046511104) 127) 128 % 256), .int .u8 (((n : Int) / 562949953421312) % 256)] rfl rfl ?c1 ?c2 ?c3 ?c4 ?c5 ?_))
  case c1 => exact World.news_of_block (cs := #[.int .u8 (bits .or .u64 (bits .and .u64 (n : Int) 127) 128 % 256), .int .u8 (bits .or .u64 (bits .and .u64 ((n : Int) / 128) 127) 128 % 256), .int .u8 (bits .or .u64 (bits .and .u64 ((n : Int) / 16384) 127) 128 % 256), .int .u8 (bits .or .u64 (bits .and .u64 ((n : Int) / 2097152) 127) 128 % 256), .int .u8 (bits .or .u64 (bits .and .u64 ((n : Int) / 268435456) 127) 128 % 256), .int .u8 (bits .or .u64 (bits .and .u64 ((n : Int) / 34359738368) 127) 128 % 256), .int .u8 (bits .or .u64 (bits .and .u64 ((n : Int) / 4398046511104) 127) 128 % 256), .int .u8 (((n : Int) / 562949953421312) % 256)]) (heap_alloc_new w1 _)
  case c2 =>
    intro u hu
    simp only [List.mem_cons, List.not_mem_nil, or_false] at hu
    rcases hu with rfl | rfl | rfl | rfl | rfl | rfl | rfl | rfl <;> rfl
  case c3 => unfold maxLen; decide
  case c4 => decide
  case c5 => exact Nat.le_trans hg1.size (Nat.le_of_lt (by show w1.heap.size < (w1.heap.push _).size; rw [Array.size_push]; exact Nat.lt_succ_self _))
  intro v2 w2 ho2 hg2 _
  have hr2 : ∀ k, (Value.slice (some ⟨w.heap.size, 0, none⟩) 0 10).ownBlock = some k → w.heap.size ≤ k := fun k hk => (ho1.lt k hk).1
  have hb1 := (Below.refl w.heap.size w).grown hg1 (Nat.le_refl _) (fun k hk => by simp at hk)
  have hb2 := (hb1.alloc hg1.size (.cells #[.int .u8 (bits .or .u64 (bits .and .u64 (n : Int) 127) 128 % 256), .int .u8 (bits .or .u64 (bits .and .u64 ((n : Int) / 128) 127) 128 % 256), .int .u8 (bits .or .u64 (bits .and .u64 ((n : Int) / 16384) 127) 128 % 256), .int .u8 (bits .or .u64 (bits .and .u64 ((n : Int) / 2097152) 127) 128 % 256), .int .u8 (bits .or .u64 (bits .and .u64 ((n : Int) / 268435456) 127) 128 % 256), .int .u8 (bits .or .u64 (bits .and .u64 ((n : Int) / 34359738368) 127) 128 % 256), .int .u8 (bits .or .u64 (bits .and .u64 ((n : Int) / 4398046511104) 127) 128 % 256), .int .u8 (((n : Int) / 562949953421312) % 256)] 5)).grown hg2 (Nat.le_trans hg1.size (Nat.le_of_lt (by show w1.heap.size < (w1.heap.push _).size; rw [Array.size_push]; exact Nat.lt_succ_self _))) hr2
  have HO := Aside0.mk ho2
  have HB := Aside0.mk hb2
  clear ho2 hb2 hb1 hg1 hg2 ho1
  go_wp2_with fail
  go_ret
  refine ⟨_, rfl, ?_, HB.out⟩
  have h := HO.out
  try simp only [List.nil_append] at h
  rw [E0.out, E1.out, E2.out, E3.out, E4.out, E5.out, E6.out, E7.out] at h
  exact h
set_option maxHeartbeats 8000000 in
set_option maxRecDepth 100000 in
theorem enc_walk8 (n : Nat) (hn : 72057594037927936 ≤ n) (hn2 : n < 9223372036854775808) (w : World) :
    Calls Tryd.prog 54 #[.int .u64 (n : Int)] w fun e w' => ∃ v', e = .returned v' ∧ w'.ownsRow w.heap.size 5 1 v' 9 (nums .u8 [(n : Int) % 128 + 128, ((n : Int) / 128) % 128 + 128, ((n : Int) / 16384) % 128 + 128, ((n : Int) / 2097152) % 128 + 128, ((n : Int) / 268435456) % 128 + 128, ((n : Int) / 34359738368) % 128 + 128, ((n : Int) / 4398046511104) % 128 + 128, ((n : Int) / 562949953421312) % 128 + 128, (n : Int) / 72057594037927936]) ∧ Below w.heap.size w w' := by
  obtain ⟨i0, hi0, hz0, hz1, hz2⟩ := info_parts uinfo
  have c0 : decide ((n : Int) < 128) = false := decide_eq_false (by omega)
  have c1 : decide ((n : Int) < 16384) = false := decide_eq_false (by omega)
  have c2 : decide ((n : Int) < 2097152) = false := decide_eq_false (by omega)
  have c3 : decide ((n : Int) < 268435456) = false := decide_eq_false (by omega)
  have c4 : decide ((n : Int) < 34359738368) = false := decide_eq_false (by omega)
  have c5 : decide ((n : Int) < 4398046511104) = false := decide_eq_false (by omega)
  have c6 : decide ((n : Int) < 562949953421312) = false := decide_eq_false (by omega)
  have c7 : decide ((n : Int) < 72057594037927936) = false := decide_eq_false (by omega)
  have c8 : decide ((n : Int) < 9223372036854775808) = true := decide_eq_true (by omega)
  have e0 : bits .or .u64 (bits .and .u64 (n : Int) 127) 128 % 256 = (n : Int) % 128 + 128 := low7 _ (by omega) (by omega)
  have e1 : bits .or .u64 (bits .and .u64 ((n : Int) / 128) 127) 128 % 256 = ((n : Int) / 128) % 128 + 128 := low7 _ (by omega) (by omega)
  have e2 : bits .or .u64 (bits .and .u64 ((n : Int) / 16384) 127) 128 % 256 = ((n : Int) / 16384) % 128 + 128 := low7 _ (by omega) (by omega)
  have e3 : bits .or .u64 (bits .and .u64 ((n : Int) / 2097152) 127) 128 % 256 = ((n : Int) / 2097152) % 128 + 128 := low7 _ (by omega) (by omega)
  have e4 : bits .or .u64 (bits .and .u64 ((n : Int) / 268435456) 127) 128 % 256 = ((n : Int) / 268435456) % 128 + 128 := low7 _ (by omega) (by omega)
  have e5 : bits .or .u64 (bits .and .u64 ((n : Int) / 34359738368) 127) 128 % 256 = ((n : Int) / 34359738368) % 128 + 128 := low7 _ (by omega) (by omega)
  have e6 : bits .or .u64 (bits .and .u64 ((n : Int) / 4398046511104) 127) 128 % 256 = ((n : Int) / 4398046511104) % 128 + 128 := low7 _ (by omega) (by omega)
  have e7 : bits .or .u64 (bits .and .u64 ((n : Int) / 562949953421312) 127) 128 % 256 = ((n : Int) / 562949953421312) % 128 + 128 := low7 _ (by omega) (by omega)
  have e8 : ((n : Int) / 72057594037927936) % 256 = (n : Int) / 72057594037927936 := by omega
  have E0 := Aside0.mk e0
  have E1 := Aside0.mk e1
  have E2 := Aside0.mk e2
  have E3 := Aside0.mk e3
  have E4 := Aside0.mk e4
  have E5 := Aside0.mk e5
  have E6 := Aside0.mk e6
  have E7 := Aside0.mk e7
  have E8 := Aside0.mk e8
  clear hn hn2 e0 e1 e2 e3 e4 e5 e6 e7 e8
  go_enter Tryd.func54, Tryd.ntmps54
  go_wp2_with (first | (at_make; refine wpList_make_own _ rfl _ _ 22 rfl w.heap.size 5 i0 (.int .u8 0) 1 Tryd.underlying22 hi0 hz0 hz1 .i64 .i64 _ 10 rfl rfl rfl (by rw [hz2]; omega) (by unfold maxLen; omega) (Nat.le_refl _) ?_))
  intro w1 ho1 hg1
  go_wp2_with (first | (at_builtin; refine wpList_append_own _ rfl _ _ 22 rfl w.heap.size 5 i0 (.int .u8 0) 1 1 Tryd.underlying22 hi0 hz0 hz1 hz2 rfl (by decide) _ 0 [] rfl (ho1.alloc _) ⟨w1.heap.size, 0, none⟩ 9 9 [.int .u8 (bits .or .u64 (bits .and .u64 (n : Int) 127) 128 % 256), .int .u8 (bits .or .u64 (bits .and .u64 ((n : Int) / 128) 127) 128 % 256), .int .u8 (bits .or .u64 (bits .and .u64 ((n : Int) / 16384) 127) 128 % 256), .int .u8 (bits .or .u64 (bits .and .u64 ((n : Int) / 2097152) 127) 128 % 256), .int .u8 (bits .or .u64 (bits .and .u64 ((n : Int) / 268435456) 127) 128 % 256), .int .u8 (bits .or .u64 (bits .and .u64 ((n : Int) / 34359738368) 127) 128 % 256), .int .u8 (bits .or .u64 (bits .and .u64 ((n : Int) / 4398046511104) 127) 128 % 256), .int .u8 (bits .or .u64 (bits .and .u64 ((n : Int) / 562949953421312) 127) 128 % 256), .int .u8 (((n : Int) / 72057594037927936) % 256)] rfl rfl ?c1 ?c2 ?c3 ?c4 ?c5 ?_))
  case c1 => exact World.news_of_block (cs := #[.int .u8 (bits .or .u64 (bits .and .u64 (n : Int) 127) 128 % 256), .int .u8 (bits .or .u64 (bits .and .u64 ((n : Int) / 128) 127) 128 % 256), .int .u8 (bits .or .u64 (bits .and .u64 ((n : Int) / 16384) 127) 128 % 256), .int .u8 (bits .or .u64 (bits .and .u64 ((n : Int) / 2097152) 127) 128 % 256), .int .u8 (bits .or .u64 (bits .and .u64 ((n : Int) / 268435456) 127) 128 % 256), .int .u8 (bits .or .u64 (bits .and .u64 ((n : Int) / 34359738368) 127) 128 % 256), .int .u8 (bits .or .u64 (bits .and .u64 ((n : Int) / 4398046511104) 127) 128 % 256), .int .u8 (bits .or .u64 (bits .and .u64 ((n : Int) / 562949953421312) 127) 128 % 256), .int .u8 (((n : Int) / 72057594037927936) % 256)]) (heap_alloc_new w1 _)
  case c2 =>
    intro u hu
    simp only [List.mem_cons, List.not_mem_nil, or_false] at hu
    rcases hu with rfl | rfl | rfl | rfl | rfl | rfl | rfl | rfl | rfl <;> rfl
  case c3 => unfold maxLen; decide
  case c4 => decide
  case c5 => exact Nat.le_trans hg1.size (Nat.le_of_lt (by show w1.heap.size < (w1.heap.push _).size; rw [Array.size_push]; exact Nat.lt_succ_self _))
  intro v2 w2 ho2 hg2 _
  have hr2 : ∀ k, (Value.slice (some ⟨w.heap.size, 0, none⟩) 0 10).ownBlock = some k → w.heap.size ≤ k := fun k hk => (ho1.lt k hk).1
  have hb1 := (Below.refl w.heap.size w).grown hg1 (Nat.le_refl _) (fun k hk => by simp at hk)
  have hb2 := (hb1.alloc hg1.size (.cells #[.int .u8 (bits .or .u64 (bits .and .u64 (n : Int) 127) 128 % 256), .int .u8 (bits .or .u64 (bits .and .u64 ((n : Int) / 128) 127) 128 % 256), .int .u8 (bits .or .u64 (bits .and .u64 ((n : Int) / 16384) 127) 128 % 256), .int .u8 (bits .or .u64 (bits .and .u64 ((n : Int) / 2097152) 127) 128 % 256), .int .u8 (bits .or .u64 (bits .and .u64 ((n : Int) / 268435456) 127) 128 % 256), .int .u8 (bits .or .u64 (bits .and .u64 ((n : Int) / 34359738368) 127) 128 % 256), .int .u8 (bits .or .u64 (bits .and .u64 ((n : Int) / 4398046511104) 127) 128 % 256), .int .u8 (bits .or .u64 (bits .and .u64 ((n : Int) / 562949953421312) 127) 128 % 256), .int .u8 (((n : Int) / 72057594037927936) % 256)] 5)).grown hg2 (Nat.le_trans hg1.size (Nat.le_of_lt (by show w1.heap.size < (w1.heap.push _).size; rw [Array.size_push]; exact Nat.lt_succ_self _))) hr2
  have HO := Aside0.mk ho2
  have HB := Aside0.mk hb2
  clear ho2 hb2 hb1 hg1 hg2 ho1
  go_wp2_with fail
  go_ret
  refine ⟨_, rfl, ?_, HB.out⟩
  have h := HO.out
  try simp only [List.nil_append] at h
  rw [E0.out, E1.out, E2.out, E3.out, E4.out, E5.out, E6.out, E7.out, E8.out] at h
  exact h
set_option maxHeartbeats 8000000 in
set_option maxRecDepth 100000 in
theorem enc_walk9 (n : Nat) (hn : 9223372036854775808 ≤ n) (hn2 : n < 18446744073709551616) (w : World) :
    Calls Tryd.prog 54 #[.int .u64 (n : Int)] w fun e w' => ∃ v', e = .returned v' ∧ w'.ownsRow w.heap.size 5 1 v' 10 (nums .u8 [(n : Int) % 128 + 128, ((n : Int) / 128) % 128 + 128, ((n : Int) / 16384) % 128 + 128, ((n : Int) / 2097152) % 128 + 128, ((n : Int) / 268435456) % 128 + 128, ((n : Int) / 34359738368) % 128 + 128, ((n : Int) / 4398046511104) % 128 + 128, ((n : Int) / 562949953421312) % 128 + 128, ((n : Int) / 72057594037927936) % 128 + 128, 1]) ∧ Below w.heap.size w w' := by
  obtain ⟨i0, hi0, hz0, hz1, hz2⟩ := info_parts uinfo
  have c0 : decide ((n : Int) < 128) = false := decide_eq_false (by omega)
  have c1 : decide ((n : Int) < 16384) = false := decide_eq_false (by omega)
  have c2 : decide ((n : Int) < 2097152) = false := decide_eq_false (by omega)
  have c3 : decide ((n : Int) < 268435456) = false := decide_eq_false (by omega)
  have c4 : decide ((n : Int) < 34359738368) = false := decide_eq_false (by omega)
  have c5 : decide ((n : Int) < 4398046511104) = false := decide_eq_false (by omega)
  have c6 : decide ((n : Int) < 562949953421312) = false := decide_eq_false (by omega)
  have c7 : decide ((n : Int) < 72057594037927936) = false := decide_eq_false (by omega)
  have c8 : decide ((n : Int) < 9223372036854775808) = false := decide_eq_false (by omega)
  have e0 : bits .or .u64 (bits .and .u64 (n : Int) 127) 128 % 256 = (n : Int) % 128 + 128 := low7 _ (by omega) (by omega)
  have e1 : bits .or .u64 (bits .and .u64 ((n : Int) / 128) 127) 128 % 256 = ((n : Int) / 128) % 128 + 128 := low7 _ (by omega) (by omega)
  have e2 : bits .or .u64 (bits .and .u64 ((n : Int) / 16384) 127) 128 % 256 = ((n : Int) / 16384) % 128 + 128 := low7 _ (by omega) (by omega)
  have e3 : bits .or .u64 (bits .and .u64 ((n : Int) / 2097152) 127) 128 % 256 = ((n : Int) / 2097152) % 128 + 128 := low7 _ (by omega) (by omega)
  have e4 : bits .or .u64 (bits .and .u64 ((n : Int) / 268435456) 127) 128 % 256 = ((n : Int) / 268435456) % 128 + 128 := low7 _ (by omega) (by omega)
  have e5 : bits .or .u64 (bits .and .u64 ((n : Int) / 34359738368) 127) 128 % 256 = ((n : Int) / 34359738368) % 128 + 128 := low7 _ (by omega) (by omega)
  have e6 : bits .or .u64 (bits .and .u64 ((n : Int) / 4398046511104) 127) 128 % 256 = ((n : Int) / 4398046511104) % 128 + 128 := low7 _ (by omega) (by omega)
  have e7 : bits .or .u64 (bits .and .u64 ((n : Int) / 562949953421312) 127) 128 % 256 = ((n : Int) / 562949953421312) % 128 + 128 := low7 _ (by omega) (by omega)
  have e8 : bits .or .u64 (bits .and .u64 ((n : Int) / 72057594037927936) 127) 128 % 256 = ((n : Int) / 72057594037927936) % 128 + 128 := low7 _ (by omega) (by omega)
  have E0 := Aside0.mk e0
  have E1 := Aside0.mk e1
  have E2 := Aside0.mk e2
  have E3 := Aside0.mk e3
  have E4 := Aside0.mk e4
  have E5 := Aside0.mk e5
  have E6 := Aside0.mk e6
  have E7 := Aside0.mk e7
  have E8 := Aside0.mk e8
  clear hn hn2 e0 e1 e2 e3 e4 e5 e6 e7 e8
  go_enter Tryd.func54, Tryd.ntmps54
  go_wp2_with (first | (at_make; refine wpList_make_own _ rfl _ _ 22 rfl w.heap.size 5 i0 (.int .u8 0) 1 Tryd.underlying22 hi0 hz0 hz1 .i64 .i64 _ 10 rfl rfl rfl (by rw [hz2]; omega) (by unfold maxLen; omega) (Nat.le_refl _) ?_))
  intro w1 ho1 hg1
  go_wp2_with (first | (at_builtin; refine wpList_append_own _ rfl _ _ 22 rfl w.heap.size 5 i0 (.int .u8 0) 1 1 Tryd.underlying22 hi0 hz0 hz1 hz2 rfl (by decide) _ 0 [] rfl (ho1.alloc _) ⟨w1.heap.size, 0, none⟩ 10 10 [.int .u8 (bits .or .u64 (bits .and .u64 (n : Int) 127) 128 % 256), .int .u8 (bits .or .u64 (bits .and .u64 ((n : Int) / 128) 127) 128 % 256), .int .u8 (bits .or .u64 (bits .and .u64 ((n : Int) / 16384) 127) 128 % 256), .int .u8 (bits .or .u64 (bits .and .u64 ((n : Int) / 2097152) 127) 128 % 256), .int .u8 (bits .or .u64 (bits .and .u64 ((n : Int) / 268435456) 127) 128 % 256), .int .u8 (bits .or .u64 (bits .and .u64 ((n : Int) / 34359738368) 127) 128 % 256), .int .u8 (bits .or .u64 (bits .and .u64 ((n : Int) / 4398046511104) 127) 128 % 256), .int .u8 (bits .or .u64 (bits .and .u64 ((n : Int) / 562949953421312) 127) 128 % 256), .int .u8 (bits .or .u64 (bits .and .u64 ((n : Int) / 72057594037927936) 127) 128 % 256), .int .u8 1] rfl rfl ?c1 ?c2 ?c3 ?c4 ?c5 ?_))
  case c1 => exact World.news_of_block (cs := #[.int .u8 (bits .or .u64 (bits .and .u64 (n : Int) 127) 128 % 256), .int .u8 (bits .or .u64 (bits .and .u64 ((n : Int) / 128) 127) 128 % 256), .int .u8 (bits .or .u64 (bits .and .u64 ((n : Int) / 16384) 127) 128 % 256), .int .u8 (bits .or .u64 (bits .and .u64 ((n : Int) / 2097152) 127) 128 % 256), .int .u8 (bits .or .u64 (bits .and .u64 ((n : Int) / 268435456) 127) 128 % 256), .int .u8 (bits .or .u64 (bits .and .u64 ((n : Int) / 34359738368) 127) 128 % 256), .int .u8 (bits .or .u64 (bits .and .u64 ((n : Int) / 4398046511104) 127) 128 % 256), .int .u8 (bits .or .u64 (bits .and .u64 ((n : Int) / 562949953421312) 127) 128 % 256), .int .u8 (bits .or .u64 (bits .and .u64 ((n : Int) / 72057594037927936) 127) 128 % 256), .int .u8 1]) (heap_alloc_new w1 _)
  case c2 =>
    intro u hu
    simp only [List.mem_cons, List.not_mem_nil, or_false] at hu
    rcases hu with rfl | rfl | rfl | rfl | rfl | rfl | rfl | rfl | rfl | rfl <;> rfl
  case c3 => unfold maxLen; decide
  case c4 => decide
  case c5 => exact Nat.le_trans hg1.size (Nat.le_of_lt (by show w1.heap.size < (w1.heap.push _).size; rw [Array.size_push]; exact Nat.lt_succ_self _))
  intro v2 w2 ho2 hg2 _
  have hr2 : ∀ k, (Value.slice (some ⟨w.heap.size, 0, none⟩) 0 10).ownBlock = some k → w.heap.size ≤ k := fun k hk => (ho1.lt k hk).1
  have hb1 := (Below.refl w.heap.size w).grown hg1 (Nat.le_refl _) (fun k hk => by simp at hk)
  have hb2 := (hb1.alloc hg1.size (.cells #[.int .u8 (bits .or .u64 (bits .and .u64 (n : Int) 127) 128 % 256), .int .u8 (bits .or .u64 (bits .and .u64 ((n : Int) / 128) 127) 128 % 256), .int .u8 (bits .or .u64 (bits .and .u64 ((n : Int) / 16384) 127) 128 % 256), .int .u8 (bits .or .u64 (bits .and .u64 ((n : Int) / 2097152) 127) 128 % 256), .int .u8 (bits .or .u64 (bits .and .u64 ((n : Int) / 268435456) 127) 128 % 256), .int .u8 (bits .or .u64 (bits .and .u64 ((n : Int) / 34359738368) 127) 128 % 256), .int .u8 (bits .or .u64 (bits .and .u64 ((n : Int) / 4398046511104) 127) 128 % 256), .int .u8 (bits .or .u64 (bits .and .u64 ((n : Int) / 562949953421312) 127) 128 % 256), .int .u8 (bits .or .u64 (bits .and .u64 ((n : Int) / 72057594037927936) 127) 128 % 256), .int .u8 1] 5)).grown hg2 (Nat.le_trans hg1.size (Nat.le_of_lt (by show w1.heap.size < (w1.heap.push _).size; rw [Array.size_push]; exact Nat.lt_succ_self _))) hr2
  have HO := Aside0.mk ho2
  have HB := Aside0.mk hb2
  clear ho2 hb2 hb1 hg1 hg2 ho1
  go_wp2_with fail
  go_ret
  refine ⟨_, rfl, ?_, HB.out⟩
  have h := HO.out
  try simp only [List.nil_append] at h
  rw [E0.out, E1.out, E2.out, E3.out, E4.out, E5.out, E6.out, E7.out, E8.out] at h
  exact h
theorem enc_walk (n : Nat) (hn : n < 2 ^ 64) (w : World) :
    Calls Tryd.prog 54 #[.int .u64 (n : Int)] w fun e w' => ∃ v', e = .returned v' ∧ w'.ownsRow w.heap.size 5 1 v' (encV 9 n).length (nums .u8 (encV 9 n)) ∧ Below w.heap.size w w' := by
  have hn' : n < 18446744073709551616 := hn
  by_cases c0 : n < 128
  · have e : encV 9 n = [(n : Int)] := by
      simp only [encV, if_pos (show n < 128 by omega)]
    rw [e]
    exact enc_walk0 n (by omega) (by omega) w
  by_cases c1 : n < 16384
  · have e : encV 9 n = [(n : Int) % 128 + 128, (n : Int) / 128] := by
      simp only [encV, if_neg (show ¬ n < 128 by omega), if_pos (show n / 128 < 128 by omega)]
      simp only [List.cons.injEq, and_true]
      refine ⟨?_, ?_⟩ <;> omega
    rw [e]
    exact enc_walk1 n (by omega) (by omega) w
  by_cases c2 : n < 2097152
  · have e : encV 9 n = [(n : Int) % 128 + 128, ((n : Int) / 128) % 128 + 128, (n : Int) / 16384] := by
      simp only [encV, if_neg (show ¬ n < 128 by omega), if_neg (show ¬ n / 128 < 128 by omega), if_pos (show n / 128 / 128 < 128 by omega)]
      simp only [List.cons.injEq, and_true]
      refine ⟨?_, ?_, ?_⟩ <;> omega
    rw [e]
    exact enc_walk2 n (by omega) (by omega) w
  by_cases c3 : n < 268435456
  · have e : encV 9 n = [(n : Int) % 128 + 128, ((n : Int) / 128) % 128 + 128, ((n : Int) / 16384) % 128 + 128, (n : Int) / 2097152] := by
      simp only [encV, if_neg (show ¬ n < 128 by omega), if_neg (show ¬ n / 128 < 128 by omega), if_neg (show ¬ n / 128 / 128 < 128 by omega), if_pos (show n / 128 / 128 / 128 < 128 by omega)]
      simp only [List.cons.injEq, and_true]
      refine ⟨?_, ?_, ?_, ?_⟩ <;> omega
    rw [e]
    exact enc_walk3 n (by omega) (by omega) w
  by_cases c4 : n < 34359738368
  · have e : encV 9 n = [(n : Int) % 128 + 128, ((n : Int) / 128) % 128 + 128, ((n : Int) / 16384) % 128 + 128, ((n : Int) / 2097152) % 128 + 128, (n : Int) / 268435456] := by
      simp only [encV, if_neg (show ¬ n < 128 by omega), if_neg (show ¬ n / 128 < 128 by omega), if_neg (show ¬ n / 128 / 128 < 128 by omega), if_neg (show ¬ n / 128 / 128 / 128 < 128 by omega), if_pos (show n / 128 / 128 / 128 / 128 < 128 by omega)]
      simp only [List.cons.injEq, and_true]
      refine ⟨?_, ?_, ?_, ?_, ?_⟩ <;> omega
    rw [e]
    exact enc_walk4 n (by omega) (by omega) w
  by_cases c5 : n < 4398046511104
  · have e : encV 9 n = [(n : Int) % 128 + 128, ((n : Int) / 128) % 128 + 128, ((n : Int) / 16384) % 128 + 128, ((n : Int) / 2097152) % 128 + 128, ((n : Int) / 268435456) % 128 + 128, (n : Int) / 34359738368] := by
      simp only [encV, if_neg (show ¬ n < 128 by omega), if_neg (show ¬ n / 128 < 128 by omega), if_neg (show ¬ n / 128 / 128 < 128 by omega), if_neg (show ¬ n / 128 / 128 / 128 < 128 by omega), if_neg (show ¬ n / 128 / 128 / 128 / 128 < 128 by omega), if_pos (show n / 128 / 128 / 128 / 128 / 128 < 128 by omega)]
      simp only [List.cons.injEq, and_true]
      refine ⟨?_, ?_, ?_, ?_, ?_, ?_⟩ <;> omega
    rw [e]
    exact enc_walk5 n (by omega) (by omega) w
  by_cases c6 : n < 562949953421312
  · have e : encV 9 n = [(n : Int) % 128 + 128, ((n : Int) / 128) % 128 + 128, ((n : Int) / 16384) % 128 + 128, ((n : Int) / 2097152) % 128 + 128, ((n : Int) / 268435456) % 128 + 128, ((n : Int) / 34359738368) % 128 + 128, (n : Int) / 4398046511104] := by
      simp only [encV, if_neg (show ¬ n < 128 by omega), if_neg (show ¬ n / 128 < 128 by omega), if_neg (show ¬ n / 128 / 128 < 128 by omega), if_neg (show ¬ n / 128 / 128 / 128 < 128 by omega), if_neg (show ¬ n / 128 / 128 / 128 / 128 < 128 by omega), if_neg (show ¬ n / 128 / 128 / 128 / 128 / 128 < 128 by omega), if_pos (show n / 128 / 128 / 128 / 128 / 128 / 128 < 128 by omega)]
      simp only [List.cons.injEq, and_true]
      refine ⟨?_, ?_, ?_, ?_, ?_, ?_, ?_⟩ <;> omega
    rw [e]
    exact enc_walk6 n (by omega) (by omega) w
  by_cases c7 : n < 72057594037927936
  · have e : encV 9 n = [(n : Int) % 128 + 128, ((n : Int) / 128) % 128 + 128, ((n : Int) / 16384) % 128 + 128, ((n : Int) / 2097152) % 128 + 128, ((n : Int) / 268435456) % 128 + 128, ((n : Int) / 34359738368) % 128 + 128, ((n : Int) / 4398046511104) % 128 + 128, (n : Int) / 562949953421312] := by
      simp only [encV, if_neg (show ¬ n < 128 by omega), if_neg (show ¬ n / 128 < 128 by omega), if_neg (show ¬ n / 128 / 128 < 128 by omega), if_neg (show ¬ n / 128 / 128 / 128 < 128 by omega), if_neg (show ¬ n / 128 / 128 / 128 / 128 < 128 by omega), if_neg (show ¬ n / 128 / 128 / 128 / 128 / 128 < 128 by omega), if_neg (show ¬ n / 128 / 128 / 128 / 128 / 128 / 128 < 128 by omega), if_pos (show n / 128 / 128 / 128 / 128 / 128 / 128 / 128 < 128 by omega)]
      simp only [List.cons.injEq, and_true]
      refine ⟨?_, ?_, ?_, ?_, ?_, ?_, ?_, ?_⟩ <;> omega
    rw [e]
    exact enc_walk7 n (by omega) (by omega) w
  by_cases c8 : n < 9223372036854775808
  · have e : encV 9 n = [(n : Int) % 128 + 128, ((n : Int) / 128) % 128 + 128, ((n : Int) / 16384) % 128 + 128, ((n : Int) / 2097152) % 128 + 128, ((n : Int) / 268435456) % 128 + 128, ((n : Int) / 34359738368) % 128 + 128, ((n : Int) / 4398046511104) % 128 + 128, ((n : Int) / 562949953421312) % 128 + 128, (n : Int) / 72057594037927936] := by
      simp only [encV, if_neg (show ¬ n < 128 by omega), if_neg (show ¬ n / 128 < 128 by omega), if_neg (show ¬ n / 128 / 128 < 128 by omega), if_neg (show ¬ n / 128 / 128 / 128 < 128 by omega), if_neg (show ¬ n / 128 / 128 / 128 / 128 < 128 by omega), if_neg (show ¬ n / 128 / 128 / 128 / 128 / 128 < 128 by omega), if_neg (show ¬ n / 128 / 128 / 128 / 128 / 128 / 128 < 128 by omega), if_neg (show ¬ n / 128 / 128 / 128 / 128 / 128 / 128 / 128 < 128 by omega), if_pos (show n / 128 / 128 / 128 / 128 / 128 / 128 / 128 / 128 < 128 by omega)]
      simp only [List.cons.injEq, and_true]
      refine ⟨?_, ?_, ?_, ?_, ?_, ?_, ?_, ?_, ?_⟩ <;> omega
    rw [e]
    exact enc_walk8 n (by omega) (by omega) w
  have e : encV 9 n = [(n : Int) % 128 + 128, ((n : Int) / 128) % 128 + 128, ((n : Int) / 16384) % 128 + 128, ((n : Int) / 2097152) % 128 + 128, ((n : Int) / 268435456) % 128 + 128, ((n : Int) / 34359738368) % 128 + 128, ((n : Int) / 4398046511104) % 128 + 128, ((n : Int) / 562949953421312) % 128 + 128, ((n : Int) / 72057594037927936) % 128 + 128, 1] := by
    simp only [encV, if_neg (show ¬ n < 128 by omega), if_neg (show ¬ n / 128 < 128 by omega), if_neg (show ¬ n / 128 / 128 < 128 by omega), if_neg (show ¬ n / 128 / 128 / 128 < 128 by omega), if_neg (show ¬ n / 128 / 128 / 128 / 128 < 128 by omega), if_neg (show ¬ n / 128 / 128 / 128 / 128 / 128 < 128 by omega), if_neg (show ¬ n / 128 / 128 / 128 / 128 / 128 / 128 < 128 by omega), if_neg (show ¬ n / 128 / 128 / 128 / 128 / 128 / 128 / 128 < 128 by omega), if_neg (show ¬ n / 128 / 128 / 128 / 128 / 128 / 128 / 128 / 128 < 128 by omega)]
    simp only [List.cons.injEq, and_true]
    refine ⟨?_, ?_, ?_, ?_, ?_, ?_, ?_, ?_, ?_, ?_⟩ <;> omega
  rw [e]
  exact enc_walk9 n (by omega) (by omega) w
theorem add_zero_ (a : Addr) : a.add 0 = a := by simp [Addr.add]
set_option maxHeartbeats 8000000 in
set_option maxRecDepth 100000 in
theorem scan_walk0 (ad : Addr) (L c : Nat) (b0 v : Int) (w : World) (hL : 1 ≤ L)
    (k0 : w.cell? (ad.add 0) = some (.int .u8 b0))
    (h0 : 0 ≤ b0) (g0 : b0 < 128) (hv : v = 0 + b0 * 1) :
    Calls Tryd.prog 52 #[.slice (some ad) L c] w fun e w' => e = .returned (.tuple #[.int .u64 v, .int .i64 1, .nilIface]) ∧ Below w.heap.size w w' := by
  have l0 : decide ((L : Int) ≤ 0) = false := decide_eq_false (by omega)
  have z0 : decide (L = 0) = false := decide_eq_false (by omega)
  have m0 := eq_true (show 0 < L by omega)
  have n0 := eq_true (show (0 : Int) < (L : Int) by omega)
  have w0 : IntKind.u64.wrap b0 = b0 := by rw [IntKind.wrap_u64]; omega
  have d0 : decide (b0 < 128) = true := decide_eq_true (by omega)
  have HV : Aside0 (v = b0) := ⟨by omega⟩
  have kk0 := k0
  rw [add_zero_] at kk0
  clear hL hv h0 g0
  go_enter Tryd.func52, Tryd.ntmps52
  go_wp2_with fail
  go_ret3
  refine ⟨?_, Below.refl _ _⟩
  rw [HV.out]
  rfl
set_option maxHeartbeats 8000000 in
set_option maxRecDepth 100000 in
theorem scan_walk1 (ad : Addr) (L c : Nat) (b0 b1 v : Int) (w : World) (hL : 2 ≤ L)
    (k0 : w.cell? (ad.add 0) = some (.int .u8 b0))
    (k1 : w.cell? (ad.add 1) = some (.int .u8 b1))
    (h0 : 128 ≤ b0) (g0 : b0 < 256)
    (h1 : 0 ≤ b1) (g1 : b1 < 128) (hv : v = 0+(b0 - 128) * 1 + b1 * 128) :
    Calls Tryd.prog 52 #[.slice (some ad) L c] w fun e w' => e = .returned (.tuple #[.int .u64 v, .int .i64 2, .nilIface]) ∧ Below w.heap.size w w' := by
  have l0 : decide ((L : Int) ≤ 0) = false := decide_eq_false (by omega)
  have z0 : decide (L = 0) = false := decide_eq_false (by omega)
  have m0 := eq_true (show 0 < L by omega)
  have n0 := eq_true (show (0 : Int) < (L : Int) by omega)
  have w0 : IntKind.u64.wrap b0 = b0 := by rw [IntKind.wrap_u64]; omega
  have l1 : decide ((L : Int) ≤ 1) = false := decide_eq_false (by omega)
  have z1 : decide (L ≤ 1) = false := decide_eq_false (by omega)
  have m1 := eq_true (show 1 < L by omega)
  have n1 := eq_true (show (1 : Int) < (L : Int) by omega)
  have w1 : IntKind.u64.wrap b1 = b1 := by rw [IntKind.wrap_u64]; omega
  obtain ⟨a1, ha1⟩ : ∃ x, x = b0 - 128 := ⟨_, rfl⟩
  have s1 : IntKind.u64.wrap (b0 - 128) = a1 := by rw [IntKind.wrap_u64]; omega
  obtain ⟨y1, hy1⟩ : ∃ x, x = b1 * 128 := ⟨_, rfl⟩
  have t1 : IntKind.u64.wrap (b1 * 128) = y1 := by rw [IntKind.wrap_u64]; omega
  obtain ⟨v1, hv1⟩ : ∃ x, x = a1 + y1 := ⟨_, rfl⟩
  have u1 : IntKind.u64.wrap (a1 + y1) = v1 := by rw [IntKind.wrap_u64]; omega
  have d0 : decide (b0 < 128) = false := decide_eq_false (by omega)
  have d1 : decide (b1 < 128) = true := decide_eq_true (by omega)
  have HV : Aside0 (v = v1) := ⟨by omega⟩
  have kk0 := k0
  rw [add_zero_] at kk0
  have kk1 : w.cell? { block := ad.block, off := ad.off + 1 } = some (.int .u8 b1) := by simpa [Addr.add] using k1
  clear hL hv h0 g0 h1 g1 ha1 hy1 hv1
  go_enter Tryd.func52, Tryd.ntmps52
  go_wp2_with fail
  go_ret3
  refine ⟨?_, Below.refl _ _⟩
  rw [HV.out]
  rfl
set_option maxHeartbeats 8000000 in
set_option maxRecDepth 100000 in
theorem scan_walk2 (ad : Addr) (L c : Nat) (b0 b1 b2 v : Int) (w : World) (hL : 3 ≤ L)
    (k0 : w.cell? (ad.add 0) = some (.int .u8 b0))
    (k1 : w.cell? (ad.add 1) = some (.int .u8 b1))
    (k2 : w.cell? (ad.add 2) = some (.int .u8 b2))
    (h0 : 128 ≤ b0) (g0 : b0 < 256)
    (h1 : 128 ≤ b1) (g1 : b1 < 256)
    (h2 : 0 ≤ b2) (g2 : b2 < 128) (hv : v = 0+(b0 - 128) * 1+(b1 - 128) * 128 + b2 * 16384) :
    Calls Tryd.prog 52 #[.slice (some ad) L c] w fun e w' => e = .returned (.tuple #[.int .u64 v, .int .i64 3, .nilIface]) ∧ Below w.heap.size w w' := by
  have l0 : decide ((L : Int) ≤ 0) = false := decide_eq_false (by omega)
  have z0 : decide (L = 0) = false := decide_eq_false (by omega)
  have m0 := eq_true (show 0 < L by omega)
  have n0 := eq_true (show (0 : Int) < (L : Int) by omega)
  have w0 : IntKind.u64.wrap b0 = b0 := by rw [IntKind.wrap_u64]; omega
  have l1 : decide ((L : Int) ≤ 1) = false := decide_eq_false (by omega)
  have z1 : decide (L ≤ 1) = false := decide_eq_false (by omega)
  have m1 := eq_true (show 1 < L by omega)
  have n1 := eq_true (show (1 : Int) < (L : Int) by omega)
  have w1 : IntKind.u64.wrap b1 = b1 := by rw [IntKind.wrap_u64]; omega
  have l2 : decide ((L : Int) ≤ 2) = false := decide_eq_false (by omega)
  have z2 : decide (L ≤ 2) = false := decide_eq_false (by omega)
  have m2 := eq_true (show 2 < L by omega)
  have n2 := eq_true (show (2 : Int) < (L : Int) by omega)
  have w2 : IntKind.u64.wrap b2 = b2 := by rw [IntKind.wrap_u64]; omega
  obtain ⟨a1, ha1⟩ : ∃ x, x = b0 - 128 := ⟨_, rfl⟩
  have s1 : IntKind.u64.wrap (b0 - 128) = a1 := by rw [IntKind.wrap_u64]; omega
  obtain ⟨y1, hy1⟩ : ∃ x, x = b1 * 128 := ⟨_, rfl⟩
  have t1 : IntKind.u64.wrap (b1 * 128) = y1 := by rw [IntKind.wrap_u64]; omega
  obtain ⟨v1, hv1⟩ : ∃ x, x = a1 + y1 := ⟨_, rfl⟩
  have u1 : IntKind.u64.wrap (a1 + y1) = v1 := by rw [IntKind.wrap_u64]; omega
  obtain ⟨a2, ha2⟩ : ∃ x, x = v1 - 16384 := ⟨_, rfl⟩
  have s2 : IntKind.u64.wrap (v1 - 16384) = a2 := by rw [IntKind.wrap_u64]; omega
  obtain ⟨y2, hy2⟩ : ∃ x, x = b2 * 16384 := ⟨_, rfl⟩
  have t2 : IntKind.u64.wrap (b2 * 16384) = y2 := by rw [IntKind.wrap_u64]; omega
  obtain ⟨v2, hv2⟩ : ∃ x, x = a2 + y2 := ⟨_, rfl⟩
  have u2 : IntKind.u64.wrap (a2 + y2) = v2 := by rw [IntKind.wrap_u64]; omega
  have d0 : decide (b0 < 128) = false := decide_eq_false (by omega)
  have d1 : decide (b1 < 128) = false := decide_eq_false (by omega)
  have d2 : decide (b2 < 128) = true := decide_eq_true (by omega)
  have HV : Aside0 (v = v2) := ⟨by omega⟩
  have kk0 := k0
  rw [add_zero_] at kk0
  have kk1 : w.cell? { block := ad.block, off := ad.off + 1 } = some (.int .u8 b1) := by simpa [Addr.add] using k1
  have kk2 : w.cell? { block := ad.block, off := ad.off + 2 } = some (.int .u8 b2) := by simpa [Addr.add] using k2
  clear hL hv h0 g0 h1 g1 h2 g2 ha1 hy1 hv1 ha2 hy2 hv2
  go_enter Tryd.func52, Tryd.ntmps52
  go_wp2_with fail
  go_ret3
  refine ⟨?_, Below.refl _ _⟩
  rw [HV.out]
  rfl
set_option maxHeartbeats 8000000 in
set_option maxRecDepth 100000 in
theorem scan_walk3 (ad : Addr) (L c : Nat) (b0 b1 b2 b3 v : Int) (w : World) (hL : 4 ≤ L)
    (k0 : w.cell? (ad.add 0) = some (.int .u8 b0))
    (k1 : w.cell? (ad.add 1) = some (.int .u8 b1))
    (k2 : w.cell? (ad.add 2) = some (.int .u8 b2))
    (k3 : w.cell? (ad.add 3) = some (.int .u8 b3))
    (h0 : 128 ≤ b0) (g0 : b0 < 256)
    (h1 : 128 ≤ b1) (g1 : b1 < 256)
    (h2 : 128 ≤ b2) (g2 : b2 < 256)
    (h3 : 0 ≤ b3) (g3 : b3 < 128) (hv : v = 0+(b0 - 128) * 1+(b1 - 128) * 128+(b2 - 128) * 16384 + b3 * 2097152) :
    Calls Tryd.prog 52 #[.slice (some ad) L c] w fun e w' => e = .returned (.tuple #[.int .u64 v, .int .i64 4, .nilIface]) ∧ Below w.heap.size w w' := by
  have l0 : decide ((L : Int) ≤ 0) = false := decide_eq_false (by omega)
  have z0 : decide (L = 0) = false := decide_eq_false (by omega)
  have m0 := eq_true (show 0 < L by omega)
  have n0 := eq_true (show (0 : Int) < (L : Int) by omega)
  have w0 : IntKind.u64.wrap b0 = b0 := by rw [IntKind.wrap_u64]; omega
  have l1 : decide ((L : Int) ≤ 1) = false := decide_eq_false (by omega)
  have z1 : decide (L ≤ 1) = false := decide_eq_false (by omega)
  have m1 := eq_true (show 1 < L by omega)
  have n1 := eq_true (show (1 : Int) < (L : Int) by omega)
  have w1 : IntKind.u64.wrap b1 = b1 := by rw [IntKind.wrap_u64]; omega
  have l2 : decide ((L : Int) ≤ 2) = false := decide_eq_false (by omega)
  have z2 : decide (L ≤ 2) = false := decide_eq_false (by omega)
  have m2 := eq_true (show 2 < L by omega)
  have n2 := eq_true (show (2 : Int) < (L : Int) by omega)
  have w2 : IntKind.u64.wrap b2 = b2 := by rw [IntKind.wrap_u64]; omega
  have l3 : decide ((L : Int) ≤ 3) = false := decide_eq_false (by omega)
  have z3 : decide (L ≤ 3) = false := decide_eq_false (by omega)
  have m3 := eq_true (show 3 < L by omega)
  have n3 := eq_true (show (3 : Int) < (L : Int) by omega)
  have w3 : IntKind.u64.wrap b3 = b3 := by rw [IntKind.wrap_u64]; omega
  obtain ⟨a1, ha1⟩ : ∃ x, x = b0 - 128 := ⟨_, rfl⟩
  have s1 : IntKind.u64.wrap (b0 - 128) = a1 := by rw [IntKind.wrap_u64]; omega
  obtain ⟨y1, hy1⟩ : ∃ x, x = b1 * 128 := ⟨_, rfl⟩
  have t1 : IntKind.u64.wrap (b1 * 128) = y1 := by rw [IntKind.wrap_u64]; omega
  obtain ⟨v1, hv1⟩ : ∃ x, x = a1 + y1 := ⟨_, rfl⟩
  have u1 : IntKind.u64.wrap (a1 + y1) = v1 := by rw [IntKind.wrap_u64]; omega
  obtain ⟨a2, ha2⟩ : ∃ x, x = v1 - 16384 := ⟨_, rfl⟩
  have s2 : IntKind.u64.wrap (v1 - 16384) = a2 := by rw [IntKind.wrap_u64]; omega
  obtain ⟨y2, hy2⟩ : ∃ x, x = b2 * 16384 := ⟨_, rfl⟩
  have t2 : IntKind.u64.wrap (b2 * 16384) = y2 := by rw [IntKind.wrap_u64]; omega
  obtain ⟨v2, hv2⟩ : ∃ x, x = a2 + y2 := ⟨_, rfl⟩
  have u2 : IntKind.u64.wrap (a2 + y2) = v2 := by rw [IntKind.wrap_u64]; omega
  obtain ⟨a3, ha3⟩ : ∃ x, x = v2 - 2097152 := ⟨_, rfl⟩
  have s3 : IntKind.u64.wrap (v2 - 2097152) = a3 := by rw [IntKind.wrap_u64]; omega
  obtain ⟨y3, hy3⟩ : ∃ x, x = b3 * 2097152 := ⟨_, rfl⟩
  have t3 : IntKind.u64.wrap (b3 * 2097152) = y3 := by rw [IntKind.wrap_u64]; omega
  obtain ⟨v3, hv3⟩ : ∃ x, x = a3 + y3 := ⟨_, rfl⟩
  have u3 : IntKind.u64.wrap (a3 + y3) = v3 := by rw [IntKind.wrap_u64]; omega
  have d0 : decide (b0 < 128) = false := decide_eq_false (by omega)
  have d1 : decide (b1 < 128) = false := decide_eq_false (by omega)
  have d2 : decide (b2 < 128) = false := decide_eq_false (by omega)
  have d3 : decide (b3 < 128) = true := decide_eq_true (by omega)
  have HV : Aside0 (v = v3) := ⟨by omega⟩
  have kk0 := k0
  rw [add_zero_] at kk0
  have kk1 : w.cell? { block := ad.block, off := ad.off + 1 } = some (.int .u8 b1) := by simpa [Addr.add] using k1
  have kk2 : w.cell? { block := ad.block, off := ad.off + 2 } = some (.int .u8 b2) := by simpa [Addr.add] using k2
  have kk3 : w.cell? { block := ad.block, off := ad.off + 3 } = some (.int .u8 b3) := by simpa [Addr.add] using k3
  clear hL hv h0 g0 h1 g1 h2 g2 h3 g3 ha1 hy1 hv1 ha2 hy2 hv2 ha3 hy3 hv3
  go_enter Tryd.func52, Tryd.ntmps52
  go_wp2_with fail
  go_ret3
  refine ⟨?_, Below.refl _ _⟩
  rw [HV.out]
  rfl
set_option maxHeartbeats 8000000 in
set_option maxRecDepth 100000 in
theorem scan_walk4 (ad : Addr) (L c : Nat) (b0 b1 b2 b3 b4 v : Int) (w : World) (hL : 5 ≤ L)
    (k0 : w.cell? (ad.add 0) = some (.int .u8 b0))
    (k1 : w.cell? (ad.add 1) = some (.int .u8 b1))
    (k2 : w.cell? (ad.add 2) = some (.int .u8 b2))
    (k3 : w.cell? (ad.add 3) = some (.int .u8 b3))
    (k4 : w.cell? (ad.add 4) = some (.int .u8 b4))
    (h0 : 128 ≤ b0) (g0 : b0 < 256)
    (h1 : 128 ≤ b1) (g1 : b1 < 256)
    (h2 : 128 ≤ b2) (g2 : b2 < 256)
    (h3 : 128 ≤ b3) (g3 : b3 < 256)
    (h4 : 0 ≤ b4) (g4 : b4 < 128) (hv : v = 0+(b0 - 128) * 1+(b1 - 128) * 128+(b2 - 128) * 16384+(b3 - 128) * 2097152 + b4 * 268435456) :
    Calls Tryd.prog 52 #[.slice (some ad) L c] w fun e w' => e = .returned (.tuple #[.int .u64 v, .int .i64 5, .nilIface]) ∧ Below w.heap.size w w' := by
  have l0 : decide ((L : Int) ≤ 0) = false := decide_eq_false (by omega)
  have z0 : decide (L = 0) = false := decide_eq_false (by omega)
  have m0 := eq_true (show 0 < L by omega)
  have n0 := eq_true (show (0 : Int) < (L : Int) by omega)
  have w0 : IntKind.u64.wrap b0 = b0 := by rw [IntKind.wrap_u64]; omega
  have l1 : decide ((L : Int) ≤ 1) = false := decide_eq_false (by omega)
  have z1 : decide (L ≤ 1) = false := decide_eq_false (by omega)
  have m1 := eq_true (show 1 < L by omega)
  have n1 := eq_true (show (1 : Int) < (L : Int) by omega)
  have w1 : IntKind.u64.wrap b1 = b1 := by rw [IntKind.wrap_u64]; omega
  have l2 : decide ((L : Int) ≤ 2) = false := decide_eq_false (by omega)
  have z2 : decide (L ≤ 2) = false := decide_eq_false (by omega)
  have m2 := eq_true (show 2 < L by omega)
  have n2 := eq_true (show (2 : Int) < (L : Int) by omega)
  have w2 : IntKind.u64.wrap b2 = b2 := by rw [IntKind.wrap_u64]; omega
  have l3 : decide ((L : Int) ≤ 3) = false := decide_eq_false (by omega)
  have z3 : decide (L ≤ 3) = false := decide_eq_false (by omega)
  have m3 := eq_true (show 3 < L by omega)
  have n3 := eq_true (show (3 : Int) < (L : Int) by omega)
  have w3 : IntKind.u64.wrap b3 = b3 := by rw [IntKind.wrap_u64]; omega
  have l4 : decide ((L : Int) ≤ 4) = false := decide_eq_false (by omega)
  have z4 : decide (L ≤ 4) = false := decide_eq_false (by omega)
  have m4 := eq_true (show 4 < L by omega)
  have n4 := eq_true (show (4 : Int) < (L : Int) by omega)
  have w4 : IntKind.u64.wrap b4 = b4 := by rw [IntKind.wrap_u64]; omega
  obtain ⟨a1, ha1⟩ : ∃ x, x = b0 - 128 := ⟨_, rfl⟩
  have s1 : IntKind.u64.wrap (b0 - 128) = a1 := by rw [IntKind.wrap_u64]; omega
  obtain ⟨y1, hy1⟩ : ∃ x, x = b1 * 128 := ⟨_, rfl⟩
  have t1 : IntKind.u64.wrap (b1 * 128) = y1 := by rw [IntKind.wrap_u64]; omega
  obtain ⟨v1, hv1⟩ : ∃ x, x = a1 + y1 := ⟨_, rfl⟩
  have u1 : IntKind.u64.wrap (a1 + y1) = v1 := by rw [IntKind.wrap_u64]; omega
  obtain ⟨a2, ha2⟩ : ∃ x, x = v1 - 16384 := ⟨_, rfl⟩
  have s2 : IntKind.u64.wrap (v1 - 16384) = a2 := by rw [IntKind.wrap_u64]; omega
  obtain ⟨y2, hy2⟩ : ∃ x, x = b2 * 16384 := ⟨_, rfl⟩
  have t2 : IntKind.u64.wrap (b2 * 16384) = y2 := by rw [IntKind.wrap_u64]; omega
  obtain ⟨v2, hv2⟩ : ∃ x, x = a2 + y2 := ⟨_, rfl⟩
  have u2 : IntKind.u64.wrap (a2 + y2) = v2 := by rw [IntKind.wrap_u64]; omega
  obtain ⟨a3, ha3⟩ : ∃ x, x = v2 - 2097152 := ⟨_, rfl⟩
  have s3 : IntKind.u64.wrap (v2 - 2097152) = a3 := by rw [IntKind.wrap_u64]; omega
  obtain ⟨y3, hy3⟩ : ∃ x, x = b3 * 2097152 := ⟨_, rfl⟩
  have t3 : IntKind.u64.wrap (b3 * 2097152) = y3 := by rw [IntKind.wrap_u64]; omega
  obtain ⟨v3, hv3⟩ : ∃ x, x = a3 + y3 := ⟨_, rfl⟩
  have u3 : IntKind.u64.wrap (a3 + y3) = v3 := by rw [IntKind.wrap_u64]; omega
  obtain ⟨a4, ha4⟩ : ∃ x, x = v3 - 268435456 := ⟨_, rfl⟩
  have s4 : IntKind.u64.wrap (v3 - 268435456) = a4 := by rw [IntKind.wrap_u64]; omega
  obtain ⟨y4, hy4⟩ : ∃ x, x = b4 * 268435456 := ⟨_, rfl⟩
  have t4 : IntKind.u64.wrap (b4 * 268435456) = y4 := by rw [IntKind.wrap_u64]; omega
  obtain ⟨v4, hv4⟩ : ∃ x, x = a4 + y4 := ⟨_, rfl⟩
  have u4 : IntKind.u64.wrap (a4 + y4) = v4 := by rw [IntKind.wrap_u64]; omega
  have d0 : decide (b0 < 128) = false := decide_eq_false (by omega)
  have d1 : decide (b1 < 128) = false := decide_eq_false (by omega)
  have d2 : decide (b2 < 128) = false := decide_eq_false (by omega)
  have d3 : decide (b3 < 128) = false := decide_eq_false (by omega)
  have d4 : decide (b4 < 128) = true := decide_eq_true (by omega)
  have HV : Aside0 (v = v4) := ⟨by omega⟩
  have kk0 := k0
  rw [add_zero_] at kk0
  have kk1 : w.cell? { block := ad.block, off := ad.off + 1 } = some (.int .u8 b1) := by simpa [Addr.add] using k1
  have kk2 : w.cell? { block := ad.block, off := ad.off + 2 } = some (.int .u8 b2) := by simpa [Addr.add] using k2
  have kk3 : w.cell? { block := ad.block, off := ad.off + 3 } = some (.int .u8 b3) := by simpa [Addr.add] using k3
  have kk4 : w.cell? { block := ad.block, off := ad.off + 4 } = some (.int .u8 b4) := by simpa [Addr.add] using k4
  clear hL hv h0 g0 h1 g1 h2 g2 h3 g3 h4 g4 ha1 hy1 hv1 ha2 hy2 hv2 ha3 hy3 hv3 ha4 hy4 hv4
  go_enter Tryd.func52, Tryd.ntmps52
  go_wp2_with fail
  go_ret3
  refine ⟨?_, Below.refl _ _⟩
  rw [HV.out]
  rfl
set_option maxHeartbeats 8000000 in
set_option maxRecDepth 100000 in
theorem scan_walk5 (ad : Addr) (L c : Nat) (b0 b1 b2 b3 b4 b5 v : Int) (w : World) (hL : 6 ≤ L)
    (k0 : w.cell? (ad.add 0) = some (.int .u8 b0))
    (k1 : w.cell? (ad.add 1) = some (.int .u8 b1))
    (k2 : w.cell? (ad.add 2) = some (.int .u8 b2))
    (k3 : w.cell? (ad.add 3) = some (.int .u8 b3))
    (k4 : w.cell? (ad.add 4) = some (.int .u8 b4))
    (k5 : w.cell? (ad.add 5) = some (.int .u8 b5))
    (h0 : 128 ≤ b0) (g0 : b0 < 256)
    (h1 : 128 ≤ b1) (g1 : b1 < 256)
    (h2 : 128 ≤ b2) (g2 : b2 < 256)
    (h3 : 128 ≤ b3) (g3 : b3 < 256)
    (h4 : 128 ≤ b4) (g4 : b4 < 256)
    (h5 : 0 ≤ b5) (g5 : b5 < 128) (hv : v = 0+(b0 - 128) * 1+(b1 - 128) * 128+(b2 - 128) * 16384+(b3 - 128) * 2097152+(b4 - 128) * 268435456 + b5 * 34359738368) :
    Calls Tryd.prog 52 #[.slice (some ad) L c] w fun e w' => e = .returned (.tuple #[.int .u64 v, .int .i64 6, .nilIface]) ∧ Below w.heap.size w w' := by
  have l0 : decide ((L : Int) ≤ 0) = false := decide_eq_false (by omega)
  have z0 : decide (L = 0) = false := decide_eq_false (by omega)
  have m0 := eq_true (show 0 < L by omega)
  have n0 := eq_true (show (0 : Int) < (L : Int) by omega)
  have w0 : IntKind.u64.wrap b0 = b0 := by rw [IntKind.wrap_u64]; omega
  have l1 : decide ((L : Int) ≤ 1) = false := decide_eq_false (by omega)
  have z1 : decide (L ≤ 1) = false := decide_eq_false (by omega)
  have m1 := eq_true (show 1 < L by omega)
  have n1 := eq_true (show (1 : Int) < (L : Int) by omega)
  have w1 : IntKind.u64.wrap b1 = b1 := by rw [IntKind.wrap_u64]; omega
  have l2 : decide ((L : Int) ≤ 2) = false := decide_eq_false (by omega)
  have z2 : decide (L ≤ 2) = false := decide_eq_false (by omega)
  have m2 := eq_true (show 2 < L by omega)
  have n2 := eq_true (show (2 : Int) < (L : Int) by omega)
  have w2 : IntKind.u64.wrap b2 = b2 := by rw [IntKind.wrap_u64]; omega
  have l3 : decide ((L : Int) ≤ 3) = false := decide_eq_false (by omega)
  have z3 : decide (L ≤ 3) = false := decide_eq_false (by omega)
  have m3 := eq_true (show 3 < L by omega)
  have n3 := eq_true (show (3 : Int) < (L : Int) by omega)
  have w3 : IntKind.u64.wrap b3 = b3 := by rw [IntKind.wrap_u64]; omega
  have l4 : decide ((L : Int) ≤ 4) = false := decide_eq_false (by omega)
  have z4 : decide (L ≤ 4) = false := decide_eq_false (by omega)
  have m4 := eq_true (show 4 < L by omega)
  have n4 := eq_true (show (4 : Int) < (L : Int) by omega)
  have w4 : IntKind.u64.wrap b4 = b4 := by rw [IntKind.wrap_u64]; omega
  have l5 : decide ((L : Int) ≤ 5) = false := decide_eq_false (by omega)
  have z5 : decide (L ≤ 5) = false := decide_eq_false (by omega)
  have m5 := eq_true (show 5 < L by omega)
  have n5 := eq_true (show (5 : Int) < (L : Int) by omega)
  have w5 : IntKind.u64.wrap b5 = b5 := by rw [IntKind.wrap_u64]; omega
  obtain ⟨a1, ha1⟩ : ∃ x, x = b0 - 128 := ⟨_, rfl⟩
  have s1 : IntKind.u64.wrap (b0 - 128) = a1 := by rw [IntKind.wrap_u64]; omega
  obtain ⟨y1, hy1⟩ : ∃ x, x = b1 * 128 := ⟨_, rfl⟩
  have t1 : IntKind.u64.wrap (b1 * 128) = y1 := by rw [IntKind.wrap_u64]; omega
  obtain ⟨v1, hv1⟩ : ∃ x, x = a1 + y1 := ⟨_, rfl⟩
  have u1 : IntKind.u64.wrap (a1 + y1) = v1 := by rw [IntKind.wrap_u64]; omega
  obtain ⟨a2, ha2⟩ : ∃ x, x = v1 - 16384 := ⟨_, rfl⟩
  have s2 : IntKind.u64.wrap (v1 - 16384) = a2 := by rw [IntKind.wrap_u64]; omega
  obtain ⟨y2, hy2⟩ : ∃ x, x = b2 * 16384 := ⟨_, rfl⟩
  have t2 : IntKind.u64.wrap (b2 * 16384) = y2 := by rw [IntKind.wrap_u64]; omega
  obtain ⟨v2, hv2⟩ : ∃ x, x = a2 + y2 := ⟨_, rfl⟩
  have u2 : IntKind.u64.wrap (a2 + y2) = v2 := by rw [IntKind.wrap_u64]; omega
  obtain ⟨a3, ha3⟩ : ∃ x, x = v2 - 2097152 := ⟨_, rfl⟩
  have s3 : IntKind.u64.wrap (v2 - 2097152) = a3 := by rw [IntKind.wrap_u64]; omega
  obtain ⟨y3, hy3⟩ : ∃ x, x = b3 * 2097152 := ⟨_, rfl⟩
  have t3 : IntKind.u64.wrap (b3 * 2097152) = y3 := by rw [IntKind.wrap_u64]; omega
  obtain ⟨v3, hv3⟩ : ∃ x, x = a3 + y3 := ⟨_, rfl⟩
  have u3 : IntKind.u64.wrap (a3 + y3) = v3 := by rw [IntKind.wrap_u64]; omega
  obtain ⟨a4, ha4⟩ : ∃ x, x = v3 - 268435456 := ⟨_, rfl⟩
  have s4 : IntKind.u64.wrap (v3 - 268435456) = a4 := by rw [IntKind.wrap_u64]; omega
  obtain ⟨y4, hy4⟩ : ∃ x, x = b4 * 268435456 := ⟨_, rfl⟩
  have t4 : IntKind.u64.wrap (b4 * 268435456) = y4 := by rw [IntKind.wrap_u64]; omega
  obtain ⟨v4, hv4⟩ : ∃ x, x = a4 + y4 := ⟨_, rfl⟩
  have u4 : IntKind.u64.wrap (a4 + y4) = v4 := by rw [IntKind.wrap_u64]; omega
  obtain ⟨a5, ha5⟩ : ∃ x, x = v4 - 34359738368 := ⟨_, rfl⟩
  have s5 : IntKind.u64.wrap (v4 - 34359738368) = a5 := by rw [IntKind.wrap_u64]; omega
  obtain ⟨y5, hy5⟩ : ∃ x, x = b5 * 34359738368 := ⟨_, rfl⟩
  have t5 : IntKind.u64.wrap (b5 * 34359738368) = y5 := by rw [IntKind.wrap_u64]; omega
  obtain ⟨v5, hv5⟩ : ∃ x, x = a5 + y5 := ⟨_, rfl⟩
  have u5 : IntKind.u64.wrap (a5 + y5) = v5 := by rw [IntKind.wrap_u64]; omega
  have d0 : decide (b0 < 128) = false := decide_eq_false (by omega)
  have d1 : decide (b1 < 128) = false := decide_eq_false (by omega)
  have d2 : decide (b2 < 128) = false := decide_eq_false (by omega)
  have d3 : decide (b3 < 128) = false := decide_eq_false (by omega)
  have d4 : decide (b4 < 128) = false := decide_eq_false (by omega)
  have d5 : decide (b5 < 128) = true := decide_eq_true (by omega)
  have HV : Aside0 (v = v5) := ⟨by omega⟩
  have kk0 := k0
  rw [add_zero_] at kk0
  have kk1 : w.cell? { block := ad.block, off := ad.off + 1 } = some (.int .u8 b1) := by simpa [Addr.add] using k1
  have kk2 : w.cell? { block := ad.block, off := ad.off + 2 } = some (.int .u8 b2) := by simpa [Addr.add] using k2
  have kk3 : w.cell? { block := ad.block, off := ad.off + 3 } = some (.int .u8 b3) := by simpa [Addr.add] using k3
  have kk4 : w.cell? { block := ad.block, off := ad.off + 4 } = some (.int .u8 b4) := by simpa [Addr.add] using k4
  have kk5 : w.cell? { block := ad.block, off := ad.off + 5 } = some (.int .u8 b5) := by simpa [Addr.add] using k5
  clear hL hv h0 g0 h1 g1 h2 g2 h3 g3 h4 g4 h5 g5 ha1 hy1 hv1 ha2 hy2 hv2 ha3 hy3 hv3 ha4 hy4 hv4 ha5 hy5 hv5
  go_enter Tryd.func52, Tryd.ntmps52
  go_wp2_with fail
  go_ret3
  refine ⟨?_, Below.refl _ _⟩
  rw [HV.out]
  rfl
set_option maxHeartbeats 8000000 in
set_option maxRecDepth 100000 in
theorem scan_walk6 (ad : Addr) (L c : Nat) (b0 b1 b2 b3 b4 b5 b6 v : Int) (w : World) (hL : 7 ≤ L)
    (k0 : w.cell? (ad.add 0) = some (.int .u8 b0))
    (k1 : w.cell? (ad.add 1) = some (.int .u8 b1))
    (k2 : w.cell? (ad.add 2) = some (.int .u8 b2))
    (k3 : w.cell? (ad.add 3) = some (.int .u8 b3))
    (k4 : w.cell? (ad.add 4) = some (.int .u8 b4))
    (k5 : w.cell? (ad.add 5) = some (.int .u8 b5))
    (k6 : w.cell? (ad.add 6) = some (.int .u8 b6))
    (h0 : 128 ≤ b0) (g0 : b0 < 256)
    (h1 : 128 ≤ b1) (g1 : b1 < 256)
    (h2 : 128 ≤ b2) (g2 : b2 < 256)
    (h3 : 128 ≤ b3) (g3 : b3 < 256)
    (h4 : 128 ≤ b4) (g4 : b4 < 256)
    (h5 : 128 ≤ b5) (g5 : b5 < 256)
    (h6 : 0 ≤ b6) (g6 : b6 < 128) (hv : v = 0+(b0 - 128) * 1+(b1 - 128) * 128+(b2 - 128) * 16384+(b3 - 128) * 2097152+(b4 - 128) * 268435456+(b5 - 128) * 34359738368 + b6 * 4398046511104) :
    Calls Tryd.prog 52 #[.slice (some ad) L c] w fun e w' => e = .returned (.tuple #[.int .u64 v, .int .i64 7, .nilIface]) ∧ Below w.heap.size w w' := by
  have l0 : decide ((L : Int) ≤ 0) = false := decide_eq_false (by omega)
  have z0 : decide (L = 0) = false := decide_eq_false (by omega)
  have m0 := eq_true (show 0 < L by omega)
  have n0 := eq_true (show (0 : Int) < (L : Int) by omega)
  have w0 : IntKind.u64.wrap b0 = b0 := by rw [IntKind.wrap_u64]; omega
  have l1 : decide ((L : Int) ≤ 1) = false := decide_eq_false (by omega)
  have z1 : decide (L ≤ 1) = false := decide_eq_false (by omega)
  have m1 := eq_true (show 1 < L by omega)
  have n1 := eq_true (show (1 : Int) < (L : Int) by omega)
  have w1 : IntKind.u64.wrap b1 = b1 := by rw [IntKind.wrap_u64]; omega
  have l2 : decide ((L : Int) ≤ 2) = false := decide_eq_false (by omega)
  have z2 : decide (L ≤ 2) = false := decide_eq_false (by omega)
  have m2 := eq_true (show 2 < L by omega)
  have n2 := eq_true (show (2 : Int) < (L : Int) by omega)
  have w2 : IntKind.u64.wrap b2 = b2 := by rw [IntKind.wrap_u64]; omega
  have l3 : decide ((L : Int) ≤ 3) = false := decide_eq_false (by omega)
  have z3 : decide (L ≤ 3) = false := decide_eq_false (by omega)
  have m3 := eq_true (show 3 < L by omega)
  have n3 := eq_true (show (3 : Int) < (L : Int) by omega)
  have w3 : IntKind.u64.wrap b3 = b3 := by rw [IntKind.wrap_u64]; omega
  have l4 : decide ((L : Int) ≤ 4) = false := decide_eq_false (by omega)
  have z4 : decide (L ≤ 4) = false := decide_eq_false (by omega)
  have m4 := eq_true (show 4 < L by omega)
  have n4 := eq_true (show (4 : Int) < (L : Int) by omega)
  have w4 : IntKind.u64.wrap b4 = b4 := by rw [IntKind.wrap_u64]; omega
  have l5 : decide ((L : Int) ≤ 5) = false := decide_eq_false (by omega)
  have z5 : decide (L ≤ 5) = false := decide_eq_false (by omega)
  have m5 := eq_true (show 5 < L by omega)
  have n5 := eq_true (show (5 : Int) < (L : Int) by omega)
  have w5 : IntKind.u64.wrap b5 = b5 := by rw [IntKind.wrap_u64]; omega
  have l6 : decide ((L : Int) ≤ 6) = false := decide_eq_false (by omega)
  have z6 : decide (L ≤ 6) = false := decide_eq_false (by omega)
  have m6 := eq_true (show 6 < L by omega)
  have n6 := eq_true (show (6 : Int) < (L : Int) by omega)
  have w6 : IntKind.u64.wrap b6 = b6 := by rw [IntKind.wrap_u64]; omega
  obtain ⟨a1, ha1⟩ : ∃ x, x = b0 - 128 := ⟨_, rfl⟩
  have s1 : IntKind.u64.wrap (b0 - 128) = a1 := by rw [IntKind.wrap_u64]; omega
  obtain ⟨y1, hy1⟩ : ∃ x, x = b1 * 128 := ⟨_, rfl⟩
  have t1 : IntKind.u64.wrap (b1 * 128) = y1 := by rw [IntKind.wrap_u64]; omega
  obtain ⟨v1, hv1⟩ : ∃ x, x = a1 + y1 := ⟨_, rfl⟩
  have u1 : IntKind.u64.wrap (a1 + y1) = v1 := by rw [IntKind.wrap_u64]; omega
  obtain ⟨a2, ha2⟩ : ∃ x, x = v1 - 16384 := ⟨_, rfl⟩
  have s2 : IntKind.u64.wrap (v1 - 16384) = a2 := by rw [IntKind.wrap_u64]; omega
  obtain ⟨y2, hy2⟩ : ∃ x, x = b2 * 16384 := ⟨_, rfl⟩
  have t2 : IntKind.u64.wrap (b2 * 16384) = y2 := by rw [IntKind.wrap_u64]; omega
  obtain ⟨v2, hv2⟩ : ∃ x, x = a2 + y2 := ⟨_, rfl⟩
  have u2 : IntKind.u64.wrap (a2 + y2) = v2 := by rw [IntKind.wrap_u64]; omega
  obtain ⟨a3, ha3⟩ : ∃ x, x = v2 - 2097152 := ⟨_, rfl⟩
  have s3 : IntKind.u64.wrap (v2 - 2097152) = a3 := by rw [IntKind.wrap_u64]; omega
  obtain ⟨y3, hy3⟩ : ∃ x, x = b3 * 2097152 := ⟨_, rfl⟩
  have t3 : IntKind.u64.wrap (b3 * 2097152) = y3 := by rw [IntKind.wrap_u64]; omega
  obtain ⟨v3, hv3⟩ : ∃ x, x = a3 + y3 := ⟨_, rfl⟩
  have u3 : IntKind.u64.wrap (a3 + y3) = v3 := by rw [IntKind.wrap_u64]; omega
  obtain ⟨a4, ha4⟩ : ∃ x, x = v3 - 268435456 := ⟨_, rfl⟩
  have s4 : IntKind.u64.wrap (v3 - 268435456) = a4 := by rw [IntKind.wrap_u64]; omega
  obtain ⟨y4, hy4⟩ : ∃ x, x = b4 * 268435456 := ⟨_, rfl⟩
  have t4 : IntKind.u64.wrap (b4 * 268435456) = y4 := by rw [IntKind.wrap_u64]; omega
  obtain ⟨v4, hv4⟩ : ∃ x, x = a4 + y4 := ⟨_, rfl⟩
  have u4 : IntKind.u64.wrap (a4 + y4) = v4 := by rw [IntKind.wrap_u64]; omega
  obtain ⟨a5, ha5⟩ : ∃ x, x = v4 - 34359738368 := ⟨_, rfl⟩
  have s5 : IntKind.u64.wrap (v4 - 34359738368) = a5 := by rw [IntKind.wrap_u64]; omega
  obtain ⟨y5, hy5⟩ : ∃ x, x = b5 * 34359738368 := ⟨_, rfl⟩
  have t5 : IntKind.u64.wrap (b5 * 34359738368) = y5 := by rw [IntKind.wrap_u64]; omega
  obtain ⟨v5, hv5⟩ : ∃ x, x = a5 + y5 := ⟨_, rfl⟩
  have u5 : IntKind.u64.wrap (a5 + y5) = v5 := by rw [IntKind.wrap_u64]; omega
  obtain ⟨a6, ha6⟩ : ∃ x, x = v5 - 4398046511104 := ⟨_, rfl⟩
  have s6 : IntKind.u64.wrap (v5 - 4398046511104) = a6 := by rw [IntKind.wrap_u64]; omega
  obtain ⟨y6, hy6⟩ : ∃ x, x = b6 * 4398046511104 := ⟨_, rfl⟩
  have t6 : IntKind.u64.wrap (b6 * 4398046511104) = y6 := by rw [IntKind.wrap_u64]; omega
  obtain ⟨v6, hv6⟩ : ∃ x, x = a6 + y6 := ⟨_, rfl⟩
  have u6 : IntKind.u64.wrap (a6 + y6) = v6 := by rw [IntKind.wrap_u64]; omega
  have d0 : decide (b0 < 128) = false := decide_eq_false (by omega)
  have d1 : decide (b1 < 128) = false := decide_eq_false (by omega)
  have d2 : decide (b2 < 128) = false := decide_eq_false (by omega)
  have d3 : decide (b3 < 128) = false := decide_eq_false (by omega)
  have d4 : decide (b4 < 128) = false := decide_eq_false (by omega)
  have d5 : decide (b5 < 128) = false := decide_eq_false (by omega)
  have d6 : decide (b6 < 128) = true := decide_eq_true (by omega)
  have HV : Aside0 (v = v6) := ⟨by omega⟩
  have kk0 := k0
  rw [add_zero_] at kk0
  have kk1 : w.cell? { block := ad.block, off := ad.off + 1 } = some (.int .u8 b1) := by simpa [Addr.add] using k1
  have kk2 : w.cell? { block := ad.block, off := ad.off + 2 } = some (.int .u8 b2) := by simpa [Addr.add] using k2
  have kk3 : w.cell? { block := ad.block, off := ad.off + 3 } = some (.int .u8 b3) := by simpa [Addr.add] using k3
  have kk4 : w.cell? { block := ad.block, off := ad.off + 4 } = some (.int .u8 b4) := by simpa [Addr.add] using k4
  have kk5 : w.cell? { block := ad.block, off := ad.off + 5 } = some (.int .u8 b5) := by simpa [Addr.add] using k5
  have kk6 : w.cell? { block := ad.block, off := ad.off + 6 } = some (.int .u8 b6) := by simpa [Addr.add] using k6
  clear hL hv h0 g0 h1 g1 h2 g2 h3 g3 h4 g4 h5 g5 h6 g6 ha1 hy1 hv1 ha2 hy2 hv2 ha3 hy3 hv3 ha4 hy4 hv4 ha5 hy5 hv5 ha6 hy6 hv6
  go_enter Tryd.func52, Tryd.ntmps52
  go_wp2_with fail
  go_ret3
  refine ⟨?_, Below.refl _ _⟩
  rw [HV.out]
  rfl
set_option maxHeartbeats 8000000 in
set_option maxRecDepth 100000 in
theorem scan_walk7 (ad : Addr) (L c : Nat) (b0 b1 b2 b3 b4 b5 b6 b7 v : Int) (w : World) (hL : 8 ≤ L)
    (k0 : w.cell? (ad.add 0) = some (.int .u8 b0))
    (k1 : w.cell? (ad.add 1) = some (.int .u8 b1))
    (k2 : w.cell? (ad.add 2) = some (.int .u8 b2))
    (k3 : w.cell? (ad.add 3) = some (.int .u8 b3))
    (k4 : w.cell? (ad.add 4) = some (.int .u8 b4))
    (k5 : w.cell? (ad.add 5) = some (.int .u8 b5))
    (k6 : w.cell? (ad.add 6) = some (.int .u8 b6))
    (k7 : w.cell? (ad.add 7) = some (.int .u8 b7))
    (h0 : 128 ≤ b0) (g0 : b0 < 256)
    (h1 : 128 ≤ b1) (g1 : b1 < 256)
    (h2 : 128 ≤ b2) (g2 : b2 < 256)
    (h3 : 128 ≤ b3) (g3 : b3 < 256)
    (h4 : 128 ≤ b4) (g4 : b4 < 256)
    (h5 : 128 ≤ b5) (g5 : b5 < 256)
    (h6 : 128 ≤ b6) (g6 : b6 < 256)
    (h7 : 0 ≤ b7) (g7 : b7 < 128) (hv : v = 0+(b0 - 128) * 1+(b1 - 128) * 128+(b2 - 128) * 16384+(b3 - 128) * 2097152+(b4 - 128) * 268435456+(b5 - 128) * 34359738368+(b6 - 128) * 4398046511104 + b7 * 562949953421312) :
    Calls Tryd.prog 52 #[.slice (some ad) L c] w fun e w' => e = .returned (.tuple #[.int .u64 v, .int .i64 8, .nilIface]) ∧ Below w.heap.size w w' := by
  have l0 : decide ((L : Int) ≤ 0) = false := decide_eq_false (by omega)
  have z0 : decide (L = 0) = false := decide_eq_false (by omega)
  have m0 := eq_true (show 0 < L by omega)
  have n0 := eq_true (show (0 : Int) < (L : Int) by omega)
  have w0 : IntKind.u64.wrap b0 = b0 := by rw [IntKind.wrap_u64]; omega
  have l1 : decide ((L : Int) ≤ 1) = false := decide_eq_false (by omega)
  have z1 : decide (L ≤ 1) = false := decide_eq_false (by omega)
  have m1 := eq_true (show 1 < L by omega)
  have n1 := eq_true (show (1 : Int) < (L : Int) by omega)
  have w1 : IntKind.u64.wrap b1 = b1 := by rw [IntKind.wrap_u64]; omega
  have l2 : decide ((L : Int) ≤ 2) = false := decide_eq_false (by omega)
  have z2 : decide (L ≤ 2) = false := decide_eq_false (by omega)
  have m2 := eq_true (show 2 < L by omega)
  have n2 := eq_true (show (2 : Int) < (L : Int) by omega)
  have w2 : IntKind.u64.wrap b2 = b2 := by rw [IntKind.wrap_u64]; omega
  have l3 : decide ((L : Int) ≤ 3) = false := decide_eq_false (by omega)
  have z3 : decide (L ≤ 3) = false := decide_eq_false (by omega)
  have m3 := eq_true (show 3 < L by omega)
  have n3 := eq_true (show (3 : Int) < (L : Int) by omega)
  have w3 : IntKind.u64.wrap b3 = b3 := by rw [IntKind.wrap_u64]; omega
  have l4 : decide ((L : Int) ≤ 4) = false := decide_eq_false (by omega)
  have z4 : decide (L ≤ 4) = false := decide_eq_false (by omega)
  have m4 := eq_true (show 4 < L by omega)
  have n4 := eq_true (show (4 : Int) < (L : Int) by omega)
  have w4 : IntKind.u64.wrap b4 = b4 := by rw [IntKind.wrap_u64]; omega
  have l5 : decide ((L : Int) ≤ 5) = false := decide_eq_false (by omega)
  have z5 : decide (L ≤ 5) = false := decide_eq_false (by omega)
  have m5 := eq_true (show 5 < L by omega)
  have n5 := eq_true (show (5 : Int) < (L : Int) by omega)
  have w5 : IntKind.u64.wrap b5 = b5 := by rw [IntKind.wrap_u64]; omega
  have l6 : decide ((L : Int) ≤ 6) = false := decide_eq_false (by omega)
  have z6 : decide (L ≤ 6) = false := decide_eq_false (by omega)
  have m6 := eq_true (show 6 < L by omega)
  have n6 := eq_true (show (6 : Int) < (L : Int) by omega)
  have w6 : IntKind.u64.wrap b6 = b6 := by rw [IntKind.wrap_u64]; omega
  have l7 : decide ((L : Int) ≤ 7) = false := decide_eq_false (by omega)
  have z7 : decide (L ≤ 7) = false := decide_eq_false (by omega)
  have m7 := eq_true (show 7 < L by omega)
  have n7 := eq_true (show (7 : Int) < (L : Int) by omega)
  have w7 : IntKind.u64.wrap b7 = b7 := by rw [IntKind.wrap_u64]; omega
  obtain ⟨a1, ha1⟩ : ∃ x, x = b0 - 128 := ⟨_, rfl⟩
  have s1 : IntKind.u64.wrap (b0 - 128) = a1 := by rw [IntKind.wrap_u64]; omega
  obtain ⟨y1, hy1⟩ : ∃ x, x = b1 * 128 := ⟨_, rfl⟩
  have t1 : IntKind.u64.wrap (b1 * 128) = y1 := by rw [IntKind.wrap_u64]; omega
  obtain ⟨v1, hv1⟩ : ∃ x, x = a1 + y1 := ⟨_, rfl⟩
  have u1 : IntKind.u64.wrap (a1 + y1) = v1 := by rw [IntKind.wrap_u64]; omega
  obtain ⟨a2, ha2⟩ : ∃ x, x = v1 - 16384 := ⟨_, rfl⟩
  have s2 : IntKind.u64.wrap (v1 - 16384) = a2 := by rw [IntKind.wrap_u64]; omega
  obtain ⟨y2, hy2⟩ : ∃ x, x = b2 * 16384 := ⟨_, rfl⟩
  have t2 : IntKind.u64.wrap (b2 * 16384) = y2 := by rw [IntKind.wrap_u64]; omega
  obtain ⟨v2, hv2⟩ : ∃ x, x = a2 + y2 := ⟨_, rfl⟩
  have u2 : IntKind.u64.wrap (a2 + y2) = v2 := by rw [IntKind.wrap_u64]; omega
  obtain ⟨a3, ha3⟩ : ∃ x, x = v2 - 2097152 := ⟨_, rfl⟩
  have s3 : IntKind.u64.wrap (v2 - 2097152) = a3 := by rw [IntKind.wrap_u64]; omega
  obtain ⟨y3, hy3⟩ : ∃ x, x = b3 * 2097152 := ⟨_, rfl⟩
  have t3 : IntKind.u64.wrap (b3 * 2097152) = y3 := by rw [IntKind.wrap_u64]; omega
  obtain ⟨v3, hv3⟩ : ∃ x, x = a3 + y3 := ⟨_, rfl⟩
  have u3 : IntKind.u64.wrap (a3 + y3) = v3 := by rw [IntKind.wrap_u64]; omega
  obtain ⟨a4, ha4⟩ : ∃ x, x = v3 - 268435456 := ⟨_, rfl⟩
  have s4 : IntKind.u64.wrap (v3 - 268435456) = a4 := by rw [IntKind.wrap_u64]; omega
  obtain ⟨y4, hy4⟩ : ∃ x, x = b4 * 268435456 := ⟨_, rfl⟩
  have t4 : IntKind.u64.wrap (b4 * 268435456) = y4 := by rw [IntKind.wrap_u64]; omega
  obtain ⟨v4, hv4⟩ : ∃ x, x = a4 + y4 := ⟨_, rfl⟩
  have u4 : IntKind.u64.wrap (a4 + y4) = v4 := by rw [IntKind.wrap_u64]; omega
  obtain ⟨a5, ha5⟩ : ∃ x, x = v4 - 34359738368 := ⟨_, rfl⟩
  have s5 : IntKind.u64.wrap (v4 - 34359738368) = a5 := by rw [IntKind.wrap_u64]; omega
  obtain ⟨y5, hy5⟩ : ∃ x, x = b5 * 34359738368 := ⟨_, rfl⟩
  have t5 : IntKind.u64.wrap (b5 * 34359738368) = y5 := by rw [IntKind.wrap_u64]; omega
  obtain ⟨v5, hv5⟩ : ∃ x, x = a5 + y5 := ⟨_, rfl⟩
  have u5 : IntKind.u64.wrap (a5 + y5) = v5 := by rw [IntKind.wrap_u64]; omega
  obtain ⟨a6, ha6⟩ : ∃ x, x = v5 - 4398046511104 := ⟨_, rfl⟩
  have s6 : IntKind.u64.wrap (v5 - 4398046511104) = a6 := by rw [IntKind.wrap_u64]; omega
  obtain ⟨y6, hy6⟩ : ∃ x, x = b6 * 4398046511104 := ⟨_, rfl⟩
  have t6 : IntKind.u64.wrap (b6 * 4398046511104) = y6 := by rw [IntKind.wrap_u64]; omega
  obtain ⟨v6, hv6⟩ : ∃ x, x = a6 + y6 := ⟨_, rfl⟩
  have u6 : IntKind.u64.wrap (a6 + y6) = v6 := by rw [IntKind.wrap_u64]; omega
  obtain ⟨a7, ha7⟩ : ∃ x, x = v6 - 562949953421312 := ⟨_, rfl⟩
  have s7 : IntKind.u64.wrap (v6 - 562949953421312) = a7 := by rw [IntKind.wrap_u64]; omega
  obtain ⟨y7, hy7⟩ : ∃ x, x = b7 * 562949953421312 := ⟨_, rfl⟩
  have t7 : IntKind.u64.wrap (b7 * 562949953421312) = y7 := by rw [IntKind.wrap_u64]; omega
  obtain ⟨v7, hv7⟩ : ∃ x, x = a7 + y7 := ⟨_, rfl⟩
  have u7 : IntKind.u64.wrap (a7 + y7) = v7 := by rw [IntKind.wrap_u64]; omega
  have d0 : decide (b0 < 128) = false := decide_eq_false (by omega)
  have d1 : decide (b1 < 128) = false := decide_eq_false (by omega)
  have d2 : decide (b2 < 128) = false := decide_eq_false (by omega)
  have d3 : decide (b3 < 128) = false := decide_eq_false (by omega)
  have d4 : decide (b4 < 128) = false := decide_eq_false (by omega)
  have d5 : decide (b5 < 128) = false := decide_eq_false (by omega)
  have d6 : decide (b6 < 128) = false := decide_eq_false (by omega)
  have d7 : decide (b7 < 128) = true := decide_eq_true (by omega)
  have HV : Aside0 (v = v7) := ⟨by omega⟩
  have kk0 := k0
  rw [add_zero_] at kk0
  have kk1 : w.cell? { block := ad.block, off := ad.off + 1 } = some (.int .u8 b1) := by simpa [Addr.add] using k1
  have kk2 : w.cell? { block := ad.block, off := ad.off + 2 } = some (.int .u8 b2) := by simpa [Addr.add] using k2
  have kk3 : w.cell? { block := ad.block, off := ad.off + 3 } = some (.int .u8 b3) := by simpa [Addr.add] using k3
  have kk4 : w.cell? { block := ad.block, off := ad.off + 4 } = some (.int .u8 b4) := by simpa [Addr.add] using k4
  have kk5 : w.cell? { block := ad.block, off := ad.off + 5 } = some (.int .u8 b5) := by simpa [Addr.add] using k5
  have kk6 : w.cell? { block := ad.block, off := ad.off + 6 } = some (.int .u8 b6) := by simpa [Addr.add] using k6
  have kk7 : w.cell? { block := ad.block, off := ad.off + 7 } = some (.int .u8 b7) := by simpa [Addr.add] using k7
  clear hL hv h0 g0 h1 g1 h2 g2 h3 g3 h4 g4 h5 g5 h6 g6 h7 g7 ha1 hy1 hv1 ha2 hy2 hv2 ha3 hy3 hv3 ha4 hy4 hv4 ha5 hy5 hv5 ha6 hy6 hv6 ha7 hy7 hv7
  go_enter Tryd.func52, Tryd.ntmps52
  go_wp2_with fail
  go_ret3
  refine ⟨?_, Below.refl _ _⟩
  rw [HV.out]
  rfl
set_option maxHeartbeats 8000000 in
set_option maxRecDepth 100000 in
theorem scan_walk8 (ad : Addr) (L c : Nat) (b0 b1 b2 b3 b4 b5 b6 b7 b8 v : Int) (w : World) (hL : 9 ≤ L)
    (k0 : w.cell? (ad.add 0) = some (.int .u8 b0))
    (k1 : w.cell? (ad.add 1) = some (.int .u8 b1))
    (k2 : w.cell? (ad.add 2) = some (.int .u8 b2))
    (k3 : w.cell? (ad.add 3) = some (.int .u8 b3))
    (k4 : w.cell? (ad.add 4) = some (.int .u8 b4))
    (k5 : w.cell? (ad.add 5) = some (.int .u8 b5))
    (k6 : w.cell? (ad.add 6) = some (.int .u8 b6))
    (k7 : w.cell? (ad.add 7) = some (.int .u8 b7))
    (k8 : w.cell? (ad.add 8) = some (.int .u8 b8))
    (h0 : 128 ≤ b0) (g0 : b0 < 256)
    (h1 : 128 ≤ b1) (g1 : b1 < 256)
    (h2 : 128 ≤ b2) (g2 : b2 < 256)
    (h3 : 128 ≤ b3) (g3 : b3 < 256)
    (h4 : 128 ≤ b4) (g4 : b4 < 256)
    (h5 : 128 ≤ b5) (g5 : b5 < 256)
    (h6 : 128 ≤ b6) (g6 : b6 < 256)
    (h7 : 128 ≤ b7) (g7 : b7 < 256)
    (h8 : 0 ≤ b8) (g8 : b8 < 128) (hv : v = 0+(b0 - 128) * 1+(b1 - 128) * 128+(b2 - 128) * 16384+(b3 - 128) * 2097152+(b4 - 128) * 268435456+(b5 - 128) * 34359738368+(b6 - 128) * 4398046511104+(b7 - 128) * 562949953421312 + b8 * 72057594037927936) :
    Calls Tryd.prog 52 #[.slice (some ad) L c] w fun e w' => e = .returned (.tuple #[.int .u64 v, .int .i64 9, .nilIface]) ∧ Below w.heap.size w w' := by
  have l0 : decide ((L : Int) ≤ 0) = false := decide_eq_false (by omega)
  have z0 : decide (L = 0) = false := decide_eq_false (by omega)
  have m0 := eq_true (show 0 < L by omega)
  have n0 := eq_true (show (0 : Int) < (L : Int) by omega)
  have w0 : IntKind.u64.wrap b0 = b0 := by rw [IntKind.wrap_u64]; omega
  have l1 : decide ((L : Int) ≤ 1) = false := decide_eq_false (by omega)
  have z1 : decide (L ≤ 1) = false := decide_eq_false (by omega)
  have m1 := eq_true (show 1 < L by omega)
  have n1 := eq_true (show (1 : Int) < (L : Int) by omega)
  have w1 : IntKind.u64.wrap b1 = b1 := by rw [IntKind.wrap_u64]; omega
  have l2 : decide ((L : Int) ≤ 2) = false := decide_eq_false (by omega)
  have z2 : decide (L ≤ 2) = false := decide_eq_false (by omega)
  have m2 := eq_true (show 2 < L by omega)
  have n2 := eq_true (show (2 : Int) < (L : Int) by omega)
  have w2 : IntKind.u64.wrap b2 = b2 := by rw [IntKind.wrap_u64]; omega
  have l3 : decide ((L : Int) ≤ 3) = false := decide_eq_false (by omega)
  have z3 : decide (L ≤ 3) = false := decide_eq_false (by omega)
  have m3 := eq_true (show 3 < L by omega)
  have n3 := eq_true (show (3 : Int) < (L : Int) by omega)
  have w3 : IntKind.u64.wrap b3 = b3 := by rw [IntKind.wrap_u64]; omega
  have l4 : decide ((L : Int) ≤ 4) = false := decide_eq_false (by omega)
  have z4 : decide (L ≤ 4) = false := decide_eq_false (by omega)
  have m4 := eq_true (show 4 < L by omega)
  have n4 := eq_true (show (4 : Int) < (L : Int) by omega)
  have w4 : IntKind.u64.wrap b4 = b4 := by rw [IntKind.wrap_u64]; omega
  have l5 : decide ((L : Int) ≤ 5) = false := decide_eq_false (by omega)
  have z5 : decide (L ≤ 5) = false := decide_eq_false (by omega)
  have m5 := eq_true (show 5 < L by omega)
  have n5 := eq_true (show (5 : Int) < (L : Int) by omega)
  have w5 : IntKind.u64.wrap b5 = b5 := by rw [IntKind.wrap_u64]; omega
  have l6 : decide ((L : Int) ≤ 6) = false := decide_eq_false (by omega)
  have z6 : decide (L ≤ 6) = false := decide_eq_false (by omega)
  have m6 := eq_true (show 6 < L by omega)
  have n6 := eq_true (show (6 : Int) < (L : Int) by omega)
  have w6 : IntKind.u64.wrap b6 = b6 := by rw [IntKind.wrap_u64]; omega
  have l7 : decide ((L : Int) ≤ 7) = false := decide_eq_false (by omega)
  have z7 : decide (L ≤ 7) = false := decide_eq_false (by omega)
  have m7 := eq_true (show 7 < L by omega)
  have n7 := eq_true (show (7 : Int) < (L : Int) by omega)
  have w7 : IntKind.u64.wrap b7 = b7 := by rw [IntKind.wrap_u64]; omega
  have l8 : decide ((L : Int) ≤ 8) = false := decide_eq_false (by omega)
  have z8 : decide (L ≤ 8) = false := decide_eq_false (by omega)
  have m8 := eq_true (show 8 < L by omega)
  have n8 := eq_true (show (8 : Int) < (L : Int) by omega)
  have w8 : IntKind.u64.wrap b8 = b8 := by rw [IntKind.wrap_u64]; omega
  obtain ⟨a1, ha1⟩ : ∃ x, x = b0 - 128 := ⟨_, rfl⟩
  have s1 : IntKind.u64.wrap (b0 - 128) = a1 := by rw [IntKind.wrap_u64]; omega
  obtain ⟨y1, hy1⟩ : ∃ x, x = b1 * 128 := ⟨_, rfl⟩
  have t1 : IntKind.u64.wrap (b1 * 128) = y1 := by rw [IntKind.wrap_u64]; omega
  obtain ⟨v1, hv1⟩ : ∃ x, x = a1 + y1 := ⟨_, rfl⟩
  have u1 : IntKind.u64.wrap (a1 + y1) = v1 := by rw [IntKind.wrap_u64]; omega
  obtain ⟨a2, ha2⟩ : ∃ x, x = v1 - 16384 := ⟨_, rfl⟩
  have s2 : IntKind.u64.wrap (v1 - 16384) = a2 := by rw [IntKind.wrap_u64]; omega
  obtain ⟨y2, hy2⟩ : ∃ x, x = b2 * 16384 := ⟨_, rfl⟩
  have t2 : IntKind.u64.wrap (b2 * 16384) = y2 := by rw [IntKind.wrap_u64]; omega
  obtain ⟨v2, hv2⟩ : ∃ x, x = a2 + y2 := ⟨_, rfl⟩
  have u2 : IntKind.u64.wrap (a2 + y2) = v2 := by rw [IntKind.wrap_u64]; omega
  obtain ⟨a3, ha3⟩ : ∃ x, x = v2 - 2097152 := ⟨_, rfl⟩
  have s3 : IntKind.u64.wrap (v2 - 2097152) = a3 := by rw [IntKind.wrap_u64]; omega
  obtain ⟨y3, hy3⟩ : ∃ x, x = b3 * 2097152 := ⟨_, rfl⟩
  have t3 : IntKind.u64.wrap (b3 * 2097152) = y3 := by rw [IntKind.wrap_u64]; omega
  obtain ⟨v3, hv3⟩ : ∃ x, x = a3 + y3 := ⟨_, rfl⟩
  have u3 : IntKind.u64.wrap (a3 + y3) = v3 := by rw [IntKind.wrap_u64]; omega
  obtain ⟨a4, ha4⟩ : ∃ x, x = v3 - 268435456 := ⟨_, rfl⟩
  have s4 : IntKind.u64.wrap (v3 - 268435456) = a4 := by rw [IntKind.wrap_u64]; omega
  obtain ⟨y4, hy4⟩ : ∃ x, x = b4 * 268435456 := ⟨_, rfl⟩
  have t4 : IntKind.u64.wrap (b4 * 268435456) = y4 := by rw [IntKind.wrap_u64]; omega
  obtain ⟨v4, hv4⟩ : ∃ x, x = a4 + y4 := ⟨_, rfl⟩
  have u4 : IntKind.u64.wrap (a4 + y4) = v4 := by rw [IntKind.wrap_u64]; omega
  obtain ⟨a5, ha5⟩ : ∃ x, x = v4 - 34359738368 := ⟨_, rfl⟩
  have s5 : IntKind.u64.wrap (v4 - 34359738368) = a5 := by rw [IntKind.wrap_u64]; omega
  obtain ⟨y5, hy5⟩ : ∃ x, x = b5 * 34359738368 := ⟨_, rfl⟩
  have t5 : IntKind.u64.wrap (b5 * 34359738368) = y5 := by rw [IntKind.wrap_u64]; omega
  obtain ⟨v5, hv5⟩ : ∃ x, x = a5 + y5 := ⟨_, rfl⟩
  have u5 : IntKind.u64.wrap (a5 + y5) = v5 := by rw [IntKind.wrap_u64]; omega
  obtain ⟨a6, ha6⟩ : ∃ x, x = v5 - 4398046511104 := ⟨_, rfl⟩
  have s6 : IntKind.u64.wrap (v5 - 4398046511104) = a6 := by rw [IntKind.wrap_u64]; omega
  obtain ⟨y6, hy6⟩ : ∃ x, x = b6 * 4398046511104 := ⟨_, rfl⟩
  have t6 : IntKind.u64.wrap (b6 * 4398046511104) = y6 := by rw [IntKind.wrap_u64]; omega
  obtain ⟨v6, hv6⟩ : ∃ x, x = a6 + y6 := ⟨_, rfl⟩
  have u6 : IntKind.u64.wrap (a6 + y6) = v6 := by rw [IntKind.wrap_u64]; omega
  obtain ⟨a7, ha7⟩ : ∃ x, x = v6 - 562949953421312 := ⟨_, rfl⟩
  have s7 : IntKind.u64.wrap (v6 - 562949953421312) = a7 := by rw [IntKind.wrap_u64]; omega
  obtain ⟨y7, hy7⟩ : ∃ x, x = b7 * 562949953421312 := ⟨_, rfl⟩
  have t7 : IntKind.u64.wrap (b7 * 562949953421312) = y7 := by rw [IntKind.wrap_u64]; omega
  obtain ⟨v7, hv7⟩ : ∃ x, x = a7 + y7 := ⟨_, rfl⟩
  have u7 : IntKind.u64.wrap (a7 + y7) = v7 := by rw [IntKind.wrap_u64]; omega
  obtain ⟨a8, ha8⟩ : ∃ x, x = v7 - 72057594037927936 := ⟨_, rfl⟩
  have s8 : IntKind.u64.wrap (v7 - 72057594037927936) = a8 := by rw [IntKind.wrap_u64]; omega
  obtain ⟨y8, hy8⟩ : ∃ x, x = b8 * 72057594037927936 := ⟨_, rfl⟩
  have t8 : IntKind.u64.wrap (b8 * 72057594037927936) = y8 := by rw [IntKind.wrap_u64]; omega
  obtain ⟨v8, hv8⟩ : ∃ x, x = a8 + y8 := ⟨_, rfl⟩
  have u8 : IntKind.u64.wrap (a8 + y8) = v8 := by rw [IntKind.wrap_u64]; omega
  have d0 : decide (b0 < 128) = false := decide_eq_false (by omega)
  have d1 : decide (b1 < 128) = false := decide_eq_false (by omega)
  have d2 : decide (b2 < 128) = false := decide_eq_false (by omega)
  have d3 : decide (b3 < 128) = false := decide_eq_false (by omega)
  have d4 : decide (b4 < 128) = false := decide_eq_false (by omega)
  have d5 : decide (b5 < 128) = false := decide_eq_false (by omega)
  have d6 : decide (b6 < 128) = false := decide_eq_false (by omega)
  have d7 : decide (b7 < 128) = false := decide_eq_false (by omega)
  have d8 : decide (b8 < 128) = true := decide_eq_true (by omega)
  have HV : Aside0 (v = v8) := ⟨by omega⟩
  have kk0 := k0
  rw [add_zero_] at kk0
  have kk1 : w.cell? { block := ad.block, off := ad.off + 1 } = some (.int .u8 b1) := by simpa [Addr.add] using k1
  have kk2 : w.cell? { block := ad.block, off := ad.off + 2 } = some (.int .u8 b2) := by simpa [Addr.add] using k2
  have kk3 : w.cell? { block := ad.block, off := ad.off + 3 } = some (.int .u8 b3) := by simpa [Addr.add] using k3
  have kk4 : w.cell? { block := ad.block, off := ad.off + 4 } = some (.int .u8 b4) := by simpa [Addr.add] using k4
  have kk5 : w.cell? { block := ad.block, off := ad.off + 5 } = some (.int .u8 b5) := by simpa [Addr.add] using k5
  have kk6 : w.cell? { block := ad.block, off := ad.off + 6 } = some (.int .u8 b6) := by simpa [Addr.add] using k6
  have kk7 : w.cell? { block := ad.block, off := ad.off + 7 } = some (.int .u8 b7) := by simpa [Addr.add] using k7
  have kk8 : w.cell? { block := ad.block, off := ad.off + 8 } = some (.int .u8 b8) := by simpa [Addr.add] using k8
  clear hL hv h0 g0 h1 g1 h2 g2 h3 g3 h4 g4 h5 g5 h6 g6 h7 g7 h8 g8 ha1 hy1 hv1 ha2 hy2 hv2 ha3 hy3 hv3 ha4 hy4 hv4 ha5 hy5 hv5 ha6 hy6 hv6 ha7 hy7 hv7 ha8 hy8 hv8
  go_enter Tryd.func52, Tryd.ntmps52
  go_wp2_with fail
  go_ret3
  refine ⟨?_, Below.refl _ _⟩
  rw [HV.out]
  rfl
set_option maxHeartbeats 8000000 in
set_option maxRecDepth 100000 in
theorem scan_walk9 (ad : Addr) (L c : Nat) (b0 b1 b2 b3 b4 b5 b6 b7 b8 b9 v : Int) (w : World) (hL : 10 ≤ L)
    (k0 : w.cell? (ad.add 0) = some (.int .u8 b0))
    (k1 : w.cell? (ad.add 1) = some (.int .u8 b1))
    (k2 : w.cell? (ad.add 2) = some (.int .u8 b2))
    (k3 : w.cell? (ad.add 3) = some (.int .u8 b3))
    (k4 : w.cell? (ad.add 4) = some (.int .u8 b4))
    (k5 : w.cell? (ad.add 5) = some (.int .u8 b5))
    (k6 : w.cell? (ad.add 6) = some (.int .u8 b6))
    (k7 : w.cell? (ad.add 7) = some (.int .u8 b7))
    (k8 : w.cell? (ad.add 8) = some (.int .u8 b8))
    (k9 : w.cell? (ad.add 9) = some (.int .u8 b9))
    (h0 : 128 ≤ b0) (g0 : b0 < 256)
    (h1 : 128 ≤ b1) (g1 : b1 < 256)
    (h2 : 128 ≤ b2) (g2 : b2 < 256)
    (h3 : 128 ≤ b3) (g3 : b3 < 256)
    (h4 : 128 ≤ b4) (g4 : b4 < 256)
    (h5 : 128 ≤ b5) (g5 : b5 < 256)
    (h6 : 128 ≤ b6) (g6 : b6 < 256)
    (h7 : 128 ≤ b7) (g7 : b7 < 256)
    (h8 : 128 ≤ b8) (g8 : b8 < 256)
    (h9 : 0 ≤ b9) (g9 : b9 < 2) (hv : v = 0+(b0 - 128) * 1+(b1 - 128) * 128+(b2 - 128) * 16384+(b3 - 128) * 2097152+(b4 - 128) * 268435456+(b5 - 128) * 34359738368+(b6 - 128) * 4398046511104+(b7 - 128) * 562949953421312+(b8 - 128) * 72057594037927936 + b9 * 9223372036854775808) :
    Calls Tryd.prog 52 #[.slice (some ad) L c] w fun e w' => e = .returned (.tuple #[.int .u64 v, .int .i64 10, .nilIface]) ∧ Below w.heap.size w w' := by
  have l0 : decide ((L : Int) ≤ 0) = false := decide_eq_false (by omega)
  have z0 : decide (L = 0) = false := decide_eq_false (by omega)
  have m0 := eq_true (show 0 < L by omega)
  have n0 := eq_true (show (0 : Int) < (L : Int) by omega)
  have w0 : IntKind.u64.wrap b0 = b0 := by rw [IntKind.wrap_u64]; omega
  have l1 : decide ((L : Int) ≤ 1) = false := decide_eq_false (by omega)
  have z1 : decide (L ≤ 1) = false := decide_eq_false (by omega)
  have m1 := eq_true (show 1 < L by omega)
  have n1 := eq_true (show (1 : Int) < (L : Int) by omega)
  have w1 : IntKind.u64.wrap b1 = b1 := by rw [IntKind.wrap_u64]; omega
  have l2 : decide ((L : Int) ≤ 2) = false := decide_eq_false (by omega)
  have z2 : decide (L ≤ 2) = false := decide_eq_false (by omega)
  have m2 := eq_true (show 2 < L by omega)
  have n2 := eq_true (show (2 : Int) < (L : Int) by omega)
  have w2 : IntKind.u64.wrap b2 = b2 := by rw [IntKind.wrap_u64]; omega
  have l3 : decide ((L : Int) ≤ 3) = false := decide_eq_false (by omega)
  have z3 : decide (L ≤ 3) = false := decide_eq_false (by omega)
  have m3 := eq_true (show 3 < L by omega)
  have n3 := eq_true (show (3 : Int) < (L : Int) by omega)
  have w3 : IntKind.u64.wrap b3 = b3 := by rw [IntKind.wrap_u64]; omega
  have l4 : decide ((L : Int) ≤ 4) = false := decide_eq_false (by omega)
  have z4 : decide (L ≤ 4) = false := decide_eq_false (by omega)
  have m4 := eq_true (show 4 < L by omega)
  have n4 := eq_true (show (4 : Int) < (L : Int) by omega)
  have w4 : IntKind.u64.wrap b4 = b4 := by rw [IntKind.wrap_u64]; omega
  have l5 : decide ((L : Int) ≤ 5) = false := decide_eq_false (by omega)
  have z5 : decide (L ≤ 5) = false := decide_eq_false (by omega)
  have m5 := eq_true (show 5 < L by omega)
  have n5 := eq_true (show (5 : Int) < (L : Int) by omega)
  have w5 : IntKind.u64.wrap b5 = b5 := by rw [IntKind.wrap_u64]; omega
  have l6 : decide ((L : Int) ≤ 6) = false := decide_eq_false (by omega)
  have z6 : decide (L ≤ 6) = false := decide_eq_false (by omega)
  have m6 := eq_true (show 6 < L by omega)
  have n6 := eq_true (show (6 : Int) < (L : Int) by omega)
  have w6 : IntKind.u64.wrap b6 = b6 := by rw [IntKind.wrap_u64]; omega
  have l7 : decide ((L : Int) ≤ 7) = false := decide_eq_false (by omega)
  have z7 : decide (L ≤ 7) = false := decide_eq_false (by omega)
  have m7 := eq_true (show 7 < L by omega)
  have n7 := eq_true (show (7 : Int) < (L : Int) by omega)
  have w7 : IntKind.u64.wrap b7 = b7 := by rw [IntKind.wrap_u64]; omega
  have l8 : decide ((L : Int) ≤ 8) = false := decide_eq_false (by omega)
  have z8 : decide (L ≤ 8) = false := decide_eq_false (by omega)
  have m8 := eq_true (show 8 < L by omega)
  have n8 := eq_true (show (8 : Int) < (L : Int) by omega)
  have w8 : IntKind.u64.wrap b8 = b8 := by rw [IntKind.wrap_u64]; omega
  have l9 : decide ((L : Int) ≤ 9) = false := decide_eq_false (by omega)
  have z9 : decide (L ≤ 9) = false := decide_eq_false (by omega)
  have m9 := eq_true (show 9 < L by omega)
  have n9 := eq_true (show (9 : Int) < (L : Int) by omega)
  have w9 : IntKind.u64.wrap b9 = b9 := by rw [IntKind.wrap_u64]; omega
  obtain ⟨a1, ha1⟩ : ∃ x, x = b0 - 128 := ⟨_, rfl⟩
  have s1 : IntKind.u64.wrap (b0 - 128) = a1 := by rw [IntKind.wrap_u64]; omega
  obtain ⟨y1, hy1⟩ : ∃ x, x = b1 * 128 := ⟨_, rfl⟩
  have t1 : IntKind.u64.wrap (b1 * 128) = y1 := by rw [IntKind.wrap_u64]; omega
  obtain ⟨v1, hv1⟩ : ∃ x, x = a1 + y1 := ⟨_, rfl⟩
  have u1 : IntKind.u64.wrap (a1 + y1) = v1 := by rw [IntKind.wrap_u64]; omega
  obtain ⟨a2, ha2⟩ : ∃ x, x = v1 - 16384 := ⟨_, rfl⟩
  have s2 : IntKind.u64.wrap (v1 - 16384) = a2 := by rw [IntKind.wrap_u64]; omega
  obtain ⟨y2, hy2⟩ : ∃ x, x = b2 * 16384 := ⟨_, rfl⟩
  have t2 : IntKind.u64.wrap (b2 * 16384) = y2 := by rw [IntKind.wrap_u64]; omega
  obtain ⟨v2, hv2⟩ : ∃ x, x = a2 + y2 := ⟨_, rfl⟩
  have u2 : IntKind.u64.wrap (a2 + y2) = v2 := by rw [IntKind.wrap_u64]; omega
  obtain ⟨a3, ha3⟩ : ∃ x, x = v2 - 2097152 := ⟨_, rfl⟩
  have s3 : IntKind.u64.wrap (v2 - 2097152) = a3 := by rw [IntKind.wrap_u64]; omega
  obtain ⟨y3, hy3⟩ : ∃ x, x = b3 * 2097152 := ⟨_, rfl⟩
  have t3 : IntKind.u64.wrap (b3 * 2097152) = y3 := by rw [IntKind.wrap_u64]; omega
  obtain ⟨v3, hv3⟩ : ∃ x, x = a3 + y3 := ⟨_, rfl⟩
  have u3 : IntKind.u64.wrap (a3 + y3) = v3 := by rw [IntKind.wrap_u64]; omega
  obtain ⟨a4, ha4⟩ : ∃ x, x = v3 - 268435456 := ⟨_, rfl⟩
  have s4 : IntKind.u64.wrap (v3 - 268435456) = a4 := by rw [IntKind.wrap_u64]; omega
  obtain ⟨y4, hy4⟩ : ∃ x, x = b4 * 268435456 := ⟨_, rfl⟩
  have t4 : IntKind.u64.wrap (b4 * 268435456) = y4 := by rw [IntKind.wrap_u64]; omega
  obtain ⟨v4, hv4⟩ : ∃ x, x = a4 + y4 := ⟨_, rfl⟩
  have u4 : IntKind.u64.wrap (a4 + y4) = v4 := by rw [IntKind.wrap_u64]; omega
  obtain ⟨a5, ha5⟩ : ∃ x, x = v4 - 34359738368 := ⟨_, rfl⟩
  have s5 : IntKind.u64.wrap (v4 - 34359738368) = a5 := by rw [IntKind.wrap_u64]; omega
  obtain ⟨y5, hy5⟩ : ∃ x, x = b5 * 34359738368 := ⟨_, rfl⟩
  have t5 : IntKind.u64.wrap (b5 * 34359738368) = y5 := by rw [IntKind.wrap_u64]; omega
  obtain ⟨v5, hv5⟩ : ∃ x, x = a5 + y5 := ⟨_, rfl⟩
  have u5 : IntKind.u64.wrap (a5 + y5) = v5 := by rw [IntKind.wrap_u64]; omega
  obtain ⟨a6, ha6⟩ : ∃ x, x = v5 - 4398046511104 := ⟨_, rfl⟩
  have s6 : IntKind.u64.wrap (v5 - 4398046511104) = a6 := by rw [IntKind.wrap_u64]; omega
  obtain ⟨y6, hy6⟩ : ∃ x, x = b6 * 4398046511104 := ⟨_, rfl⟩
  have t6 : IntKind.u64.wrap (b6 * 4398046511104) = y6 := by rw [IntKind.wrap_u64]; omega
  obtain ⟨v6, hv6⟩ : ∃ x, x = a6 + y6 := ⟨_, rfl⟩
  have u6 : IntKind.u64.wrap (a6 + y6) = v6 := by rw [IntKind.wrap_u64]; omega
  obtain ⟨a7, ha7⟩ : ∃ x, x = v6 - 562949953421312 := ⟨_, rfl⟩
  have s7 : IntKind.u64.wrap (v6 - 562949953421312) = a7 := by rw [IntKind.wrap_u64]; omega
  obtain ⟨y7, hy7⟩ : ∃ x, x = b7 * 562949953421312 := ⟨_, rfl⟩
  have t7 : IntKind.u64.wrap (b7 * 562949953421312) = y7 := by rw [IntKind.wrap_u64]; omega
  obtain ⟨v7, hv7⟩ : ∃ x, x = a7 + y7 := ⟨_, rfl⟩
  have u7 : IntKind.u64.wrap (a7 + y7) = v7 := by rw [IntKind.wrap_u64]; omega
  obtain ⟨a8, ha8⟩ : ∃ x, x = v7 - 72057594037927936 := ⟨_, rfl⟩
  have s8 : IntKind.u64.wrap (v7 - 72057594037927936) = a8 := by rw [IntKind.wrap_u64]; omega
  obtain ⟨y8, hy8⟩ : ∃ x, x = b8 * 72057594037927936 := ⟨_, rfl⟩
  have t8 : IntKind.u64.wrap (b8 * 72057594037927936) = y8 := by rw [IntKind.wrap_u64]; omega
  obtain ⟨v8, hv8⟩ : ∃ x, x = a8 + y8 := ⟨_, rfl⟩
  have u8 : IntKind.u64.wrap (a8 + y8) = v8 := by rw [IntKind.wrap_u64]; omega
  obtain ⟨a9, ha9⟩ : ∃ x, x = v8 - 9223372036854775808 := ⟨_, rfl⟩
  have s9 : IntKind.u64.wrap (v8 - 9223372036854775808) = a9 := by rw [IntKind.wrap_u64]; omega
  obtain ⟨y9, hy9⟩ : ∃ x, x = b9 * 9223372036854775808 := ⟨_, rfl⟩
  have t9 : IntKind.u64.wrap (b9 * 9223372036854775808) = y9 := by rw [IntKind.wrap_u64]; omega
  obtain ⟨v9, hv9⟩ : ∃ x, x = a9 + y9 := ⟨_, rfl⟩
  have u9 : IntKind.u64.wrap (a9 + y9) = v9 := by rw [IntKind.wrap_u64]; omega
  have d0 : decide (b0 < 128) = false := decide_eq_false (by omega)
  have d1 : decide (b1 < 128) = false := decide_eq_false (by omega)
  have d2 : decide (b2 < 128) = false := decide_eq_false (by omega)
  have d3 : decide (b3 < 128) = false := decide_eq_false (by omega)
  have d4 : decide (b4 < 128) = false := decide_eq_false (by omega)
  have d5 : decide (b5 < 128) = false := decide_eq_false (by omega)
  have d6 : decide (b6 < 128) = false := decide_eq_false (by omega)
  have d7 : decide (b7 < 128) = false := decide_eq_false (by omega)
  have d8 : decide (b8 < 128) = false := decide_eq_false (by omega)
  have d9 : decide (b9 < 2) = true := decide_eq_true (by omega)
  have HV : Aside0 (v = v9) := ⟨by omega⟩
  have kk0 := k0
  rw [add_zero_] at kk0
  have kk1 : w.cell? { block := ad.block, off := ad.off + 1 } = some (.int .u8 b1) := by simpa [Addr.add] using k1
  have kk2 : w.cell? { block := ad.block, off := ad.off + 2 } = some (.int .u8 b2) := by simpa [Addr.add] using k2
  have kk3 : w.cell? { block := ad.block, off := ad.off + 3 } = some (.int .u8 b3) := by simpa [Addr.add] using k3
  have kk4 : w.cell? { block := ad.block, off := ad.off + 4 } = some (.int .u8 b4) := by simpa [Addr.add] using k4
  have kk5 : w.cell? { block := ad.block, off := ad.off + 5 } = some (.int .u8 b5) := by simpa [Addr.add] using k5
  have kk6 : w.cell? { block := ad.block, off := ad.off + 6 } = some (.int .u8 b6) := by simpa [Addr.add] using k6
  have kk7 : w.cell? { block := ad.block, off := ad.off + 7 } = some (.int .u8 b7) := by simpa [Addr.add] using k7
  have kk8 : w.cell? { block := ad.block, off := ad.off + 8 } = some (.int .u8 b8) := by simpa [Addr.add] using k8
  have kk9 : w.cell? { block := ad.block, off := ad.off + 9 } = some (.int .u8 b9) := by simpa [Addr.add] using k9
  clear hL hv h0 g0 h1 g1 h2 g2 h3 g3 h4 g4 h5 g5 h6 g6 h7 g7 h8 g8 h9 g9 ha1 hy1 hv1 ha2 hy2 hv2 ha3 hy3 hv3 ha4 hy4 hv4 ha5 hy5 hv5 ha6 hy6 hv6 ha7 hy7 hv7 ha8 hy8 hv8 ha9 hy9 hv9
  go_enter Tryd.func52, Tryd.ntmps52
  go_wp2_with fail
  go_ret3
  refine ⟨?_, Below.refl _ _⟩
  rw [HV.out]
  rfl
set_option maxHeartbeats 4000000 in
theorem scan_walk (ad : Addr) (L c : Nat) (l : List Int) (v n : Int) (w : World) (hl : l.length ≤ L) (hc : ∀ j (hj : j < l.length), w.cell? (ad.add j) = some (.int .u8 l[j])) (hb : ∀ x ∈ l, 0 ≤ x ∧ x < 256) (h : scanV 0 0 l = some (v, n)) :
    Calls Tryd.prog 52 #[.slice (some ad) L c] w fun e w' => e = .returned (.tuple #[.int .u64 v, .int .i64 n, .nilIface]) ∧ Below w.heap.size w w' := by
  rcases l with _ | ⟨b0, l⟩
  · simp [scanV] at h
  have q0 := hb b0 (by simp)
  have k0 := hc 0 (by simp)
  rw [scanV, if_neg (by decide)] at h
  by_cases d0 : b0 < 128
  · rw [if_pos d0] at h
    simp only [Option.some.injEq, Prod.mk.injEq] at h
    obtain ⟨hv, hn⟩ := h
    simp only [Nat.reduceMul, Nat.reducePow, Nat.reduceAdd] at hv hn
    have en : n = 1 := by omega
    subst en
    exact scan_walk0 ad L c b0 v w (by simp at hl; omega) k0 (by omega) (by omega) (by omega)
  rw [if_neg d0] at h
  rcases l with _ | ⟨b1, l⟩
  · simp [scanV] at h
  have q1 := hb b1 (by simp)
  have k1 := hc 1 (by simp)
  rw [scanV, if_neg (by decide)] at h
  by_cases d1 : b1 < 128
  · rw [if_pos d1] at h
    simp only [Option.some.injEq, Prod.mk.injEq] at h
    obtain ⟨hv, hn⟩ := h
    simp only [Nat.reduceMul, Nat.reducePow, Nat.reduceAdd] at hv hn
    have en : n = 2 := by omega
    subst en
    exact scan_walk1 ad L c b0 b1 v w (by simp at hl; omega) k0 k1 (by omega) (by omega) (by omega) (by omega) (by omega)
  rw [if_neg d1] at h
  rcases l with _ | ⟨b2, l⟩
  · simp [scanV] at h
  have q2 := hb b2 (by simp)
  have k2 := hc 2 (by simp)
  rw [scanV, if_neg (by decide)] at h
  by_cases d2 : b2 < 128
  · rw [if_pos d2] at h
    simp only [Option.some.injEq, Prod.mk.injEq] at h
    obtain ⟨hv, hn⟩ := h
    simp only [Nat.reduceMul, Nat.reducePow, Nat.reduceAdd] at hv hn
    have en : n = 3 := by omega
    subst en
    exact scan_walk2 ad L c b0 b1 b2 v w (by simp at hl; omega) k0 k1 k2 (by omega) (by omega) (by omega) (by omega) (by omega) (by omega) (by omega)
  rw [if_neg d2] at h
  rcases l with _ | ⟨b3, l⟩
  · simp [scanV] at h
  have q3 := hb b3 (by simp)
  have k3 := hc 3 (by simp)
  rw [scanV, if_neg (by decide)] at h
  by_cases d3 : b3 < 128
  · rw [if_pos d3] at h
    simp only [Option.some.injEq, Prod.mk.injEq] at h
    obtain ⟨hv, hn⟩ := h
    simp only [Nat.reduceMul, Nat.reducePow, Nat.reduceAdd] at hv hn
    have en : n = 4 := by omega
    subst en
    exact scan_walk3 ad L c b0 b1 b2 b3 v w (by simp at hl; omega) k0 k1 k2 k3 (by omega) (by omega) (by omega) (by omega) (by omega) (by omega) (by omega) (by omega) (by omega)
  rw [if_neg d3] at h
  rcases l with _ | ⟨b4, l⟩
  · simp [scanV] at h
  have q4 := hb b4 (by simp)
  have k4 := hc 4 (by simp)
  rw [scanV, if_neg (by decide)] at h
  by_cases d4 : b4 < 128
  · rw [if_pos d4] at h
    simp only [Option.some.injEq, Prod.mk.injEq] at h
    obtain ⟨hv, hn⟩ := h
    simp only [Nat.reduceMul, Nat.reducePow, Nat.reduceAdd] at hv hn
    have en : n = 5 := by omega
    subst en
    exact scan_walk4 ad L c b0 b1 b2 b3 b4 v w (by simp at hl; omega) k0 k1 k2 k3 k4 (by omega) (by omega) (by omega) (by omega) (by omega) (by omega) (by omega) (by omega) (by omega) (by omega) (by omega)
  rw [if_neg d4] at h
  rcases l with _ | ⟨b5, l⟩
  · simp [scanV] at h
  have q5 := hb b5 (by simp)
  have k5 := hc 5 (by simp)
  rw [scanV, if_neg (by decide)] at h
  by_cases d5 : b5 < 128
  · rw [if_pos d5] at h
    simp only [Option.some.injEq, Prod.mk.injEq] at h
    obtain ⟨hv, hn⟩ := h
    simp only [Nat.reduceMul, Nat.reducePow, Nat.reduceAdd] at hv hn
    have en : n = 6 := by omega
    subst en
    exact scan_walk5 ad L c b0 b1 b2 b3 b4 b5 v w (by simp at hl; omega) k0 k1 k2 k3 k4 k5 (by omega) (by omega) (by omega) (by omega) (by omega) (by omega) (by omega) (by omega) (by omega) (by omega) (by omega) (by omega) (by omega)
  rw [if_neg d5] at h
  rcases l with _ | ⟨b6, l⟩
  · simp [scanV] at h
  have q6 := hb b6 (by simp)
  have k6 := hc 6 (by simp)
  rw [scanV, if_neg (by decide)] at h
  by_cases d6 : b6 < 128
  · rw [if_pos d6] at h
    simp only [Option.some.injEq, Prod.mk.injEq] at h
    obtain ⟨hv, hn⟩ := h
    simp only [Nat.reduceMul, Nat.reducePow, Nat.reduceAdd] at hv hn
    have en : n = 7 := by omega
    subst en
    exact scan_walk6 ad L c b0 b1 b2 b3 b4 b5 b6 v w (by simp at hl; omega) k0 k1 k2 k3 k4 k5 k6 (by omega) (by omega) (by omega) (by omega) (by omega) (by omega) (by omega) (by omega) (by omega) (by omega) (by omega) (by omega) (by omega) (by omega) (by omega)
  rw [if_neg d6] at h
  rcases l with _ | ⟨b7, l⟩
  · simp [scanV] at h
  have q7 := hb b7 (by simp)
  have k7 := hc 7 (by simp)
  rw [scanV, if_neg (by decide)] at h
  by_cases d7 : b7 < 128
  · rw [if_pos d7] at h
    simp only [Option.some.injEq, Prod.mk.injEq] at h
    obtain ⟨hv, hn⟩ := h
    simp only [Nat.reduceMul, Nat.reducePow, Nat.reduceAdd] at hv hn
    have en : n = 8 := by omega
    subst en
    exact scan_walk7 ad L c b0 b1 b2 b3 b4 b5 b6 b7 v w (by simp at hl; omega) k0 k1 k2 k3 k4 k5 k6 k7 (by omega) (by omega) (by omega) (by omega) (by omega) (by omega) (by omega) (by omega) (by omega) (by omega) (by omega) (by omega) (by omega) (by omega) (by omega) (by omega) (by omega)
  rw [if_neg d7] at h
  rcases l with _ | ⟨b8, l⟩
  · simp [scanV] at h
  have q8 := hb b8 (by simp)
  have k8 := hc 8 (by simp)
  rw [scanV, if_neg (by decide)] at h
  by_cases d8 : b8 < 128
  · rw [if_pos d8] at h
    simp only [Option.some.injEq, Prod.mk.injEq] at h
    obtain ⟨hv, hn⟩ := h
    simp only [Nat.reduceMul, Nat.reducePow, Nat.reduceAdd] at hv hn
    have en : n = 9 := by omega
    subst en
    exact scan_walk8 ad L c b0 b1 b2 b3 b4 b5 b6 b7 b8 v w (by simp at hl; omega) k0 k1 k2 k3 k4 k5 k6 k7 k8 (by omega) (by omega) (by omega) (by omega) (by omega) (by omega) (by omega) (by omega) (by omega) (by omega) (by omega) (by omega) (by omega) (by omega) (by omega) (by omega) (by omega) (by omega) (by omega)
  rw [if_neg d8] at h
  rcases l with _ | ⟨b9, l⟩
  · simp [scanV] at h
  have q9 := hb b9 (by simp)
  have k9 := hc 9 (by simp)
  rw [scanV, if_pos rfl] at h
  by_cases d9 : b9 < 2
  · rw [if_pos d9] at h
    simp only [Option.some.injEq, Prod.mk.injEq] at h
    obtain ⟨hv, hn⟩ := h
    simp only [Nat.reduceMul, Nat.reducePow, Nat.reduceAdd] at hv hn
    have en : n = 10 := by omega
    subst en
    exact scan_walk9 ad L c b0 b1 b2 b3 b4 b5 b6 b7 b8 b9 v w (by simp at hl; omega) k0 k1 k2 k3 k4 k5 k6 k7 k8 k9 (by omega) (by omega) (by omega) (by omega) (by omega) (by omega) (by omega) (by omega) (by omega) (by omega) (by omega) (by omega) (by omega) (by omega) (by omega) (by omega) (by omega) (by omega) (by omega) (by omega) (by omega)
  · simp only [if_neg d9] at h
    first | done | exact absurd h (by simp)

end Go.Proofs.YtmfblbjklmgncaaDoor.ProtoW
