/- WALKS: a set's least number, its greatest one, and how many there are. -/
import Derived.Test.YtjhdnapgdajllaaDoorProg
import Derived.Below
import Derived.Deep.Draws
import Derived.Deep.AppendLies
import Derived.Maps.AppendAt
import Derived.OwnWalk
import Derived.Laws.BytesArg
import Derived.Laws.MakeOwn
import Derived.Laws.OwnMore
import Derived.Deep.OwnRows
import Derived.Tactics
import Derived.Lib.ConvBytes
import Derived.Laws.Slices
import Derived.WalkKit
import Derived.KernelRfl
import Derived.RowKit3
import Derived.Deep.LoopGhost
import Derived.Deep.QuietTactic
import Derived.BigQuiet
import Derived.WideLaws
import Derived.Deep.DeepCutAuto
import Derived.Deep.CutBlock
import Derived.Deep.RegionHeld3
import Derived.Laws.Rows
import Derived.Lib.AppendStr
import Derived.ArgAppend
import Derived.Laws.IdiomCopy
import Derived.OrdersHeld
import Derived.Laws.BitsLemmas
import Derived.RowKit
import Derived.Test.YtjhdnapgdajllaaDoorWWords
import Derived.Test.YtjhdnapgdajllaaDoorWLast
import Derived.Test.YtjhdnapgdajllaaDoorWTab
import Derived.Test.YtjhdnapgdajllaaDoorWFour
import Derived.Test.YtjhdnapgdajllaaDoorWQPut
import Derived.Test.YtjhdnapgdajllaaDoorWApart
import Derived.Test.YtjhdnapgdajllaaDoorWArr
import Derived.Test.YtjhdnapgdajllaaDoorWZeros
import Derived.Test.YtjhdnapgdajllaaDoorWFoot
import Derived.Test.YtjhdnapgdajllaaDoorWKept
import Derived.Test.YtjhdnapgdajllaaDoorWShare
import Derived.Test.YtjhdnapgdajllaaDoorWN
import Derived.Test.YtjhdnapgdajllaaDoorWFootNe
import Derived.Test.YtjhdnapgdajllaaDoorWAt
import Derived.Test.YtjhdnapgdajllaaDoorWEqStruct
import Derived.Test.YtjhdnapgdajllaaDoorWRepsOne
import Derived.Test.YtjhdnapgdajllaaDoorWInv
import Derived.Test.YtjhdnapgdajllaaDoorWInvWords
import Derived.Test.YtjhdnapgdajllaaDoorWGuard
import Derived.Test.YtjhdnapgdajllaaDoorWNEv
import Derived.Test.YtjhdnapgdajllaaDoorWMore
import Derived.Test.YtjhdnapgdajllaaDoorSetSpecW
import Derived.Lib.Strings
import Derived.Lib.Slices
import Derived.Lib.Small
import Derived.Lib.Walk
import Derived.Lib.BitFns
import Derived.Test.YtjhdnapgdajllaaDoorSetLenW
namespace Go.Proofs.YtjhdnapgdajllaaDoor.SetStateW
open Go.RowKit Go.Proofs.YtjhdnapgdajllaaDoorW.PrintWords Go.Proofs.YtjhdnapgdajllaaDoorW.PrintLast Go.Proofs.YtjhdnapgdajllaaDoorW.PrintMore
attribute [local go_sem] max2_int min2_int max_two min_two max_three min_three max_four min_four   -- for this text's walks alone
set_option linter.unusedVariables false
set_option linter.unusedSimpArgs false



open _root_.Go.Proofs.YtjhdnapgdajllaaDoor.SetW _root_.Go.Proofs.YtjhdnapgdajllaaDoor.SetSpecW _root_.Go.Proofs.YtjhdnapgdajllaaDoor.SetLenW
theorem ownF_split (b : Nat) : ∀ (bs : List Nat) (k : Nat), (∀ j, j < k → bs.getD j 0 = 0) → ownF b bs = ownF (b + 64 * k) (bs.drop k)
  | bs, 0, _ => rfl
  | [], k + 1, _ => by simp [ownF]
  | z :: bs, k + 1, h => by
    have h0 : z = 0 := h 0 (by omega)
    have ih := ownF_split (b + 64) bs k (fun j hj => by have := h (j + 1) (by omega); simpa using this)
    rw [ownF, h0, bitsOf_zero, List.map_nil, List.nil_append, ih, List.drop_succ_cons]
    congr 1
    omega
theorem ownF_head {b : Nat} {bs : List Nat} {k : Nat} (h : ∀ j, j < k → bs.getD j 0 = 0) (hk : k < bs.length) (h0 : bs.getD k 0 ≠ 0) (hz : bs.getD k 0 < 2 ^ 64) : (ownF b bs).head? = some (b + 64 * k + Lib.ctz 64 (bs.getD k 0)) := by
  have hd : bs.getD k 0 = bs[k] := by rw [List.getD_eq_getElem?_getD, List.getElem?_eq_getElem hk]; rfl
  rw [ownF_split b bs k h, List.drop_eq_getElem_cons hk, ownF, ← hd, bitsOf_step _ h0 hz, List.map_cons, List.cons_append, List.head?_cons]
set_option maxHeartbeats 8000000 in
set_option maxRecDepth 100000 in
theorem min_calls (g b : Nat) (bs : List Nat) (pl pr : Value) (kh : Int) (w : World) (hl : bs.length = 32) (hw : w.heap[g]? = some (.cells (cellsN b bs pl pr kh) 88 (0, 0)))
    (hb : b + 2048 ≤ 18446744073709551616) (hz : ∀ z ∈ bs, z < 18446744073709551616) (h0 : zeroB bs = false) (hT : TabAt 3 Lib.deBruijn64tab w) :
    Calls Tryd.prog 54 #[.pointer (some ⟨g, 0, none⟩)] w fun e w' => ∃ m : Nat, e = .returned (.int .u64 (m : Int)) ∧ (ownF b bs).head? = some m ∧ ∃ n, w' = w.drewN n := by
  obtain ⟨LL, hLL⟩ : ∃ LL, LL = bs.map (fun z : Nat => Value.int .u64 (z : Int)) := ⟨_, rfl⟩
  have HRG := Aside0.mk (show w.rangeAt g 1 LL by rw [hLL]; exact range_bits hl hw)
  have HLL := Aside0.mk (show (Tryd.prog.info? 86).map (·.size) = some LL.length by rw [hLL, List.length_map, hl]; kernel_rfl)
  have HL2 := Aside0.mk hLL
  have HA := Aside0.mk (And.intro hl (And.intro hw (And.intro hb (And.intro hz (And.intro h0 hT)))))
  clear hLL hl hw hb hz h0 hT
  go_enter Tryd.func54, Tryd.ntmps54
  go_wp2_with (first | ((with_reducible refine gate_dst (N := 8) rfl ?_); refine wpList_load_mid rfl 86 (.tmp 7) rfl g 1 rfl LL _ HRG.out Tryd.underlying86 (by rfl) HLL.out ?_))
  go_loopw [9] (fun v9 wx => ∃ (k : Nat), v9 = .int .i64 (k : Int) ∧ Aside0 (k ≤ 32) ∧ Aside0 (∀ j, j < k → bs.getD j 0 = 0) ∧ Aside0 (wx = w)) (fun v9 _ => Road.leftOf 32 v9)
  case atStart => exact ⟨0, rfl, ⟨by omega⟩, ⟨fun j hj => absurd hj (by omega)⟩, ⟨rfl⟩⟩
  case round =>
    obtain ⟨k, rfl, HK, HZ, HW⟩ := hrel
    obtain rfl := HW.out
    obtain ⟨hl, hw, hb, hz, h0, hT⟩ := HA.out
    rcases Nat.lt_or_ge k 32 with hk | hk
    · have k1' := eq_true (show (k : Int) < 32 by omega)
      have k2' := eq_true hk
      obtain ⟨zk, hzk⟩ : ∃ zk, zk = bs.getD k 0 := ⟨_, rfl⟩
      have hkl : k < bs.length := by rw [hl]; exact hk
      have hzk2 : zk = bs[k] := by rw [hzk, List.getD_eq_getElem?_getD, List.getElem?_eq_getElem hkl]; rfl
      have ix : LL[k]? = some (.int .u64 (zk : Int)) := by
        rw [HL2.out, List.getElem?_map, hzk2, List.getElem?_eq_getElem hkl]
        rfl
      have hix := run_index_bits LL k zk wr hk ix
      have hz64 : zk < 18446744073709551616 := by rw [hzk2]; exact hz _ (List.getElem_mem hkl)
      by_cases hy0 : zk = 0
      · have z1 : ((zk : Int) != 0) = false := bne_eq_false_iff_eq.2 (by omega)
        have z2 : decide (zk = 0) = true := decide_eq_true hy0
        have z3 := eq_true hy0
        have HH := Aside0.mk (And.intro hk (And.intro hzk hy0))
        clear hk hzk hzk2 hkl ix hz64 hl hw hb hz h0 hT hy0
        go_wp2_with fail
        go_roundw
        case rel =>
          refine ⟨k + 1, ?_, ⟨HH.out.1⟩, ⟨fun j hj => ?_⟩, ⟨trivial⟩⟩
          · rw [Road.w64 ((k : Int) + 1) ((k + 1 : Nat) : Int) (by omega) (by omega) (by have := HH.out.1; omega)]
          · rcases Nat.lt_or_ge j k with h | h
            · exact HZ.out j h
            · obtain rfl : j = k := by omega
              rw [← HH.out.2.1, HH.out.2.2]
        case measure =>
          rw [Road.w64 ((k : Int) + 1) ((k + 1 : Nat) : Int) (by omega) (by omega) (by have := HH.out.1; omega)]
          exact Road.leftOf_lt HH.out.1
      · have z1 : ((zk : Int) != 0) = true := bne_iff_ne.2 (fun e => hy0 (Int.ofNat.inj e))
        have z2 : decide (zk = 0) = false := decide_eq_false hy0
        have z3 := eq_false hy0
        have cb := nd_base hw
        obtain ⟨c, hc⟩ : ∃ c, c = Lib.ctz 64 zk := ⟨_, rfl⟩
        have hc64 : c < 64 := by rw [hc]; exact (Lib.lowest_bit 64 zk hy0 hz64).2
        have hhd := ownF_head (b := b) HZ.out hkl (by rw [← hzk]; exact hy0) (by rw [← hzk]; exact hz64)
        rw [← hzk, ← hc] at hhd
        have HH := Aside0.mk (And.intro hk (And.intro hzk (And.intro hy0 (And.intro hhd (And.intro hT (And.intro hz64 hc))))))
        obtain ⟨m, hm⟩ : ∃ m, m = 64 * k := ⟨_, rfl⟩
        have v1 : IntKind.i64.wrap ((k : Int) * 64) = (m : Int) := Road.wi64 _ _ (by omega) (by omega) (by omega)
        have v1' : wrap64 ((k : Int) * 64) = (m : Int) := Road.w64 _ _ (by omega) (by omega) (by omega)
        have u1 : IntKind.u64.wrap (m : Int) = (m : Int) := Road.wu64 _ _ rfl (by omega) (by omega)
        obtain ⟨B, hB⟩ : ∃ B, B = b + m := ⟨_, rfl⟩
        have u3 : IntKind.u64.wrap ((b : Int) + (m : Int)) = (B : Int) := Road.wu64 _ _ (by omega) (by omega) (by omega)
        have u4 : IntKind.u64.wrap (c : Int) = (c : Int) := Road.wu64 _ _ rfl (by omega) (by omega)
        obtain ⟨n, hn⟩ : ∃ n, n = B + c := ⟨_, rfl⟩
        have u5 : IntKind.u64.wrap ((B : Int) + (c : Int)) = (n : Int) := Road.wu64 _ _ (by omega) (by omega) (by omega)
        have htz : ∀ q, Calls Tryd.prog 64 #[.int .u64 (zk : Int)] (wr.drewN q) fun e w' => e = .returned (.int .i64 (c : Int)) ∧ w' = wr.drewN q := fun q => by
          rw [hc]; exact tz_calls zk hz64 hy0 _ (tab_below (pw_below_drewN (Below.refl _ _) q) hT)
        have HN := Aside0.mk (show n = b + 64 * k + c by omega)
        clear hk hzk hzk2 hkl ix hz64 hl hw hb hz h0 hT hy0 hhd hc hc64 hm hB hn
        go_wp2_with fail
        go_quiet (first | (go_at_call 64; refine Calls.quiet_of_same (htz _)))
        go_wp2_with fail
        go_ret
        refine ⟨n, rfl, ?_, _, rfl⟩
        rw [HH.out.2.2.2.1, HN.out]
    · obtain rfl : k = 32 := by have := HK.out; omega
      exact absurd (zeroB_yes (fun i hi => HZ.out i (by omega))) (by rw [h0]; simp)
theorem bitLen_spec : ∀ (n x : Nat), x ≤ n → x < 2 ^ 64 → x < 2 ^ Lib.bitLen x ∧ (x ≠ 0 → 2 ^ Lib.bitLen x ≤ 2 * x)
  | 0, x, h, _ => by
    obtain rfl : x = 0 := by omega
    exact ⟨by decide, fun h => absurd rfl h⟩
  | n + 1, x, h, hx => by
    by_cases h0 : x = 0
    · subst h0; exact ⟨by decide, fun h => absurd rfl h⟩
    · obtain ⟨i1, i2⟩ := bitLen_spec n (x / 2) (by omega) (by omega)
      rw [Lib.bitLen_half x h0 hx, Nat.add_comm 1, Nat.pow_succ]
      refine ⟨by omega, fun _ => ?_⟩
      by_cases h1 : x / 2 = 0
      · have : x = 1 := by omega
        subst this
        decide
      · have := i2 h1
        omega
theorem top_bit {z : Nat} (h0 : z ≠ 0) (hz : z < 2 ^ 64) : 2 ^ Lib.bitLen (z / 2) ≤ z ∧ z < 2 ^ (Lib.bitLen (z / 2) + 1) := by
  obtain ⟨i1, i2⟩ := bitLen_spec z z (Nat.le_refl _) hz
  rw [Lib.bitLen_half z h0 hz, Nat.add_comm 1] at i1 i2
  refine ⟨?_, i1⟩
  have := i2 h0
  rw [Nat.pow_succ] at this
  omega
theorem bitsOf_last {z : Nat} (h0 : z ≠ 0) (hz : z < 2 ^ 64) : (bitsOf z).getLast? = some (Lib.bitLen (z / 2)) := by
  obtain ⟨h1, h2⟩ := top_bit h0 hz
  obtain ⟨p, hp⟩ : ∃ p, p = Lib.bitLen (z / 2) := ⟨_, rfl⟩
  rw [← hp] at h1 h2 ⊢
  have hp64 : p < 64 := by
    rcases Nat.lt_or_ge p 64 with h | h
    · exact h
    · have := Nat.pow_le_pow_right (show 0 < 2 by decide) h
      omega
  have tp : z.testBit p = true := by
    rw [Nat.testBit_eq_decide_div_mod_eq]
    have : z / 2 ^ p = 1 := by
      rw [Nat.pow_succ] at h2
      exact Nat.div_eq_of_lt_le (by omega) (by omega)
    rw [this]
    rfl
  have hr : List.range 64 = List.range p ++ p :: (List.range (64 - p - 1)).map (p + 1 + ·) := by
    apply List.ext_getElem?
    intro i
    rcases Nat.lt_or_ge i 64 with c | c
    · rw [List.getElem?_range c]
      rcases Nat.lt_trichotomy i p with d | d | d
      · rw [List.getElem?_append_left (by simpa using d), List.getElem?_range d]
      · subst d; rw [List.getElem?_append_right (by simp)]; simp
      · rw [List.getElem?_append_right (by rw [List.length_range]; omega), List.length_range, show i - p = (i - p - 1) + 1 by omega, List.getElem?_cons_succ, List.getElem?_map, List.getElem?_range (by omega)]
        simp
        omega
    · rw [List.getElem?_eq_none (by simpa using c), List.getElem?_eq_none (by simp; omega)]
  have hn : ((List.range (64 - p - 1)).map (p + 1 + ·)).filter (fun j => z.testBit j) = [] := by
    rw [List.filter_eq_nil_iff]
    intro x hx
    obtain ⟨y, _, rfl⟩ := List.mem_map.1 hx
    rw [Nat.testBit_lt_two_pow (Nat.lt_of_lt_of_le h2 (Nat.pow_le_pow_right (by decide) (by omega)))]
    simp
  unfold bitsOf
  rw [hr, List.filter_append, List.filter_cons, if_pos tp, hn, List.getLast?_append]
  simp
theorem ownF_append (b : Nat) : ∀ (xs ys : List Nat), ownF b (xs ++ ys) = ownF b xs ++ ownF (b + 64 * xs.length) ys
  | [], ys => by simp [ownF]
  | x :: xs, ys => by
    rw [List.cons_append, ownF, ownF, ownF_append (b + 64) xs ys, List.append_assoc, List.length_cons]
    congr 3
    omega
theorem ownF_last {b : Nat} {bs : List Nat} {k : Nat} (h : ∀ j, k < j → j < bs.length → bs.getD j 0 = 0) (hk : k < bs.length) (h0 : bs.getD k 0 ≠ 0) (hz : bs.getD k 0 < 2 ^ 64) : (ownF b bs).getLast? = some (b + 64 * k + Lib.bitLen (bs.getD k 0 / 2)) := by
  have hd : bs.getD k 0 = bs[k] := by rw [List.getD_eq_getElem?_getD, List.getElem?_eq_getElem hk]; rfl
  have e1 : bs = bs.take k ++ (bs[k] :: bs.drop (k + 1)) := by rw [← List.drop_eq_getElem_cons hk, List.take_append_drop]
  have e2 : ∀ c, ownF c (bs.drop (k + 1)) = [] := fun c => ownF_zero _ _ (zeroB_yes (fun i hi => by
    rw [List.length_drop] at hi
    have := h (k + 1 + i) (by omega) (by omega)
    rw [List.getD_eq_getElem?_getD, List.getElem?_drop, ← List.getD_eq_getElem?_getD]
    exact this))
  rw [e1, ownF_append, ownF, e2, List.append_nil, ← e1, ← hd, List.length_take, Nat.min_eq_left (by omega), List.getLast?_append, List.getLast?_map, bitsOf_last h0 hz]
  rfl
def lastM : Value → Nat
  | .int _ z => (z + 1).toNat
  | _ => 0
set_option maxHeartbeats 8000000 in
set_option maxRecDepth 100000 in
theorem max_calls (g b : Nat) (bs : List Nat) (pl pr : Value) (kh : Int) (w : World) (hl : bs.length = 32) (hw : w.heap[g]? = some (.cells (cellsN b bs pl pr kh) 88 (0, 0)))
    (hb : b + 2048 ≤ 18446744073709551616) (hz : ∀ z ∈ bs, z < 18446744073709551616) (h0 : zeroB bs = false) :
    Calls Tryd.prog 55 #[.pointer (some ⟨g, 0, none⟩)] w fun e w' => ∃ m : Nat, e = .returned (.int .u64 (m : Int)) ∧ (ownF b bs).getLast? = some m ∧ ∃ n, w' = w.drewN n := by
  have HA := Aside0.mk (And.intro hl (And.intro hw (And.intro hb (And.intro hz h0))))
  clear hl hw hb hz h0
  go_enter Tryd.func55, Tryd.ntmps55
  go_wp2_with fail
  go_loopw [3] (fun v3 wx => ∃ (k : Nat), v3 = .int .i64 ((k : Int) - 1) ∧ Aside0 (k ≤ 32) ∧ Aside0 (∀ j, k ≤ j → j < 32 → bs.getD j 0 = 0) ∧ Aside0 (wx = w)) (fun v3 _ => lastM v3)
  case atStart => exact ⟨32, rfl, ⟨by omega⟩, ⟨fun j hj h => absurd hj (by omega)⟩, ⟨rfl⟩⟩
  case round =>
    obtain ⟨k, rfl, HK, HZ, HW⟩ := hrel
    obtain rfl := HW.out
    obtain ⟨hl, hw, hb, hz, h0⟩ := HA.out
    cases k with
    | zero => exact absurd (zeroB_yes (fun i hi => HZ.out i (by omega) (by omega))) (by rw [h0]; simp)
    | succ k =>
      have ek : (((k + 1 : Nat) : Int) - 1) = (k : Int) := by omega
      rw [ek]
      have hk : k < 32 := by have := HK.out; omega
      have k1' := eq_true (show (k : Int) < 32 by omega)
      have k2' := eq_true hk
      have k3' : decide ((k : Int) ≥ 0) = true := decide_eq_true (by omega)
      have k4' := eq_true (show 0 ≤ (k : Int) by omega)
      obtain ⟨zk, hzk⟩ : ∃ zk, zk = bs.getD k 0 := ⟨_, rfl⟩
      have hkl : k < bs.length := by rw [hl]; exact hk
      have hzk2 : zk = bs[k] := by rw [hzk, List.getD_eq_getElem?_getD, List.getElem?_eq_getElem hkl]; rfl
      have hz64 : zk < 18446744073709551616 := by rw [hzk2]; exact hz _ (List.getElem_mem hkl)
      have c2 := nd_bit hw hl k hk
      rw [← hzk] at c2
      have cb := nd_base hw
      by_cases hy0 : zk = 0
      · have z1 : ((zk : Int) != 0) = false := bne_eq_false_iff_eq.2 (by omega)
        have z2 : decide (zk = 0) = true := decide_eq_true hy0
        have z3 := eq_true hy0
        have HH := Aside0.mk (And.intro hk (And.intro hzk hy0))
        clear hk hzk hzk2 hkl hz64 hl hw hb hz h0 hy0 ek
        go_wp2_with fail
        go_roundw
        case rel =>
          refine ⟨k, ?_, ⟨Nat.le_of_lt HH.out.1⟩, ⟨fun j hj h => ?_⟩, ⟨trivial⟩⟩
          · rw [Road.w64 ((k : Int) - 1) ((k : Int) - 1) rfl (by omega) (by have := HH.out.1; omega)]
          · rcases Nat.lt_or_ge k j with h' | h'
            · exact HZ.out j (by omega) h
            · obtain rfl : j = k := by omega
              rw [← HH.out.2.1, HH.out.2.2]
        case measure =>
          rw [Road.w64 ((k : Int) - 1) ((k : Int) - 1) rfl (by omega) (by have := HH.out.1; omega)]
          show ((k : Int) - 1 + 1).toNat < ((k : Int) + 1).toNat
          omega
      · have z1 : ((zk : Int) != 0) = true := bne_iff_ne.2 (fun e => hy0 (Int.ofNat.inj e))
        have z2 : decide (zk = 0) = false := decide_eq_false hy0
        have z3 := eq_false hy0
        obtain ⟨y, hy⟩ : ∃ y, y = zk / 2 := ⟨_, rfl⟩
        obtain ⟨c, hc⟩ : ∃ c, c = Lib.bitLen y := ⟨_, rfl⟩
        have hc64 : c ≤ 63 := by rw [hc]; exact Lib.bitLen_le y 63 (by omega) (by omega)
        have hhd := ownF_last (b := b) (fun j h1 h2 => HZ.out j (by omega) (by omega)) hkl (by rw [← hzk]; exact hy0) (by rw [← hzk]; exact hz64)
        rw [← hzk, ← hy, ← hc] at hhd
        have HH := Aside0.mk hhd
        obtain ⟨m, hm⟩ : ∃ m, m = 64 * k := ⟨_, rfl⟩
        have v1 : IntKind.i64.wrap ((k : Int) * 64) = (m : Int) := Road.wi64 _ _ (by omega) (by omega) (by omega)
        have v1' : wrap64 ((k : Int) * 64) = (m : Int) := Road.w64 _ _ (by omega) (by omega) (by omega)
        have u1 : IntKind.u64.wrap (m : Int) = (m : Int) := Road.wu64 _ _ rfl (by omega) (by omega)
        obtain ⟨B, hB⟩ : ∃ B, B = b + m := ⟨_, rfl⟩
        have u3 : IntKind.u64.wrap ((b : Int) + (m : Int)) = (B : Int) := Road.wu64 _ _ (by omega) (by omega) (by omega)
        have u4 : IntKind.u64.wrap (c : Int) = (c : Int) := Road.wu64 _ _ rfl (by omega) (by omega)
        obtain ⟨n, hn⟩ : ∃ n, n = B + c := ⟨_, rfl⟩
        have u5 : IntKind.u64.wrap ((B : Int) + (c : Int)) = (n : Int) := Road.wu64 _ _ (by omega) (by omega) (by omega)
        have s1 : (zk : Int) / 2 = (y : Int) := by omega
        obtain ⟨lz, hlz⟩ : ∃ lz : Nat, (lz : Int) = 64 - (c : Int) := ⟨64 - c, by omega⟩
        have v2 : IntKind.i64.wrap (64 - (lz : Int)) = (c : Int) := Road.wi64 _ _ (by omega) (by omega) (by omega)
        have v2' : wrap64 (64 - (lz : Int)) = (c : Int) := Road.w64 _ _ (by omega) (by omega) (by omega)
        have htz : ∀ q, Calls Tryd.prog 74 #[.int .u64 (y : Int)] (wr.drewN q) fun e w' => e = .returned (.int .i64 (lz : Int)) ∧ w' = wr.drewN q := fun q => by
          rw [hlz, hc]; exact lz64_calls y _ (by omega) (by omega)
        have HN := Aside0.mk (show n = b + 64 * k + c by omega)
        clear hk hzk hzk2 hkl hz64 hl hw hb hz h0 hy0 hhd hc hc64 hm hB hn hlz hy ek
        go_wp2_with fail
        go_quiet (first | (go_at_call 74; refine Calls.quiet_of_same (htz _)))
        go_wp2_with fail
        go_ret
        refine ⟨n, rfl, ?_, _, rfl⟩
        rw [HH.out, HN.out]
theorem chg_below {w w' : World} (h : Below w.heap.size w w') : Chg [] w w' := ⟨h.os, h.tape, h.output, h.size, fun k hk _ => h.block k hk⟩
theorem set_below {w w' : World} {SS : Nat} {t : Tr} {L : List Nat} (h : SetAt w SS t L) (hb : Below w.heap.size w w') : SetAt w' SS t L := h.keep (chg_below hb) (by simp)
theorem nums_ne {lo hi : Nat} {t : Tr} (h : t.ok lo hi) (hn : t ≠ .nil) : t.nums ≠ [] := by
  cases t with
  | nil => exact absurd rfl hn
  | node g b bs l r k =>
    intro e
    have := ownF_ne bs b h.2.2.2.2.1 h.2.2.2.2.2.1
    rw [Tr.nums] at e
    simp at e
    exact this e.2.1
theorem head_of {α : Type} {a b c : List α} {m : α} (ha : a = []) (h : b.head? = some m) : (a ++ (b ++ c)).head? = some m := by
  subst ha
  cases b with
  | nil => simp at h
  | cons x xs => exact h
theorem last_of {α : Type} {a b c : List α} {m : α} (hc : c = []) (h : b.getLast? = some m) : (a ++ (b ++ c)).getLast? = some m := by
  subst hc
  rw [List.append_nil, List.getLast?_append, h]
  rfl
set_option maxHeartbeats 16000000 in
set_option maxRecDepth 100000 in
theorem MinMax_calls (SS : Nat) (t : Tr) (L : List Nat) (w : World) (h : SetAt w SS t L) (hT : TabAt 3 Lib.deBruijn64tab w) :
    Calls Tryd.prog 39 #[.pointer (some ⟨SS, 0, none⟩)] w fun e w' => e = .returned (.tuple #[.int .u64 ((L.head?.getD 0 : Nat) : Int), .int .u64 ((L.getLast?.getD 0 : Nat) : Int)]) ∧ Below w.heap.size w w' := by
  have c0 : w.cell? ⟨SS, 0, none⟩ = some (.pointer t.pp) := cell_of_row w SS 0 _ _ _ h.ss
  have HH := Aside0.mk (And.intro h hT)
  clear h hT
  by_cases hn : t = .nil
  · subst hn
    replace c0 : w.cell? ⟨SS, 0, none⟩ = some (.pointer none) := c0
    have e : L = [] := HH.out.1.rep.nums.symm
    subst e
    clear HH
    go_enter Tryd.func39, Tryd.ntmps39
    go_wp2_with fail
    refine bodyPost_ret (results_tmp2 rfl _ _ _) rfl ?_
    exact ⟨rfl, Below.refl _ _⟩
  · obtain ⟨g0, hg0⟩ : ∃ g0, t.pp = some ⟨g0, 0, none⟩ := by
      cases t with
      | nil => exact absurd rfl hn
      | node g b bs l r k => exact ⟨g, rfl⟩
    have HN := Aside0.mk (And.intro hn hg0)
    have c1 := c0
    rw [hg0] at c1
    have HC := Aside0.mk c0
    clear hn c0
    go_enter Tryd.func39, Tryd.ntmps39
    go_wp2_with fail
    rw [← hg0]
    clear hg0
    go_loopg [2, 4] (t.sz + 1) (fun kq v2 v4 w' => ∃ u : Tr, v4 = .pointer u.pp ∧ Aside0 (u.at w' ∧ ∃ lo hi, hi ≤ top64 ∧ u.ok lo hi) ∧ Aside0 (u ≠ .nil → ∃ rest, L = u.nums ++ rest) ∧ Aside0 (u = .nil → ∃ m : Nat, v2 = .int .u64 (m : Int) ∧ L.head? = some m) ∧ Aside0 (u.sz < kq) ∧ Aside0 (Below w.heap.size w w'))
    case atStart => exact ⟨t, rfl, ⟨HH.out.1.tr, 0, top64, Nat.le_refl _, HH.out.1.rep.ok⟩, ⟨fun _ => ⟨[], by rw [List.append_nil, HH.out.1.rep.nums]⟩⟩, ⟨fun e => absurd e HN.out.1⟩, ⟨Nat.lt_succ_self _⟩, ⟨Below.refl _ _⟩⟩
    case round =>
      obtain ⟨u, rfl, HU, HI, HM, HK, HB⟩ := hrel
      cases gk with
      | zero => exact absurd HK.out (by omega)
      | succ k1 =>
      cases u with
      | nil =>
        obtain ⟨m, hv2, hm⟩ := HM.out rfl
        have HMM := Aside0.mk hm
        subst hv2
        rw [show (Tr.nil).pp = none from rfl]
        have c0 : wr.cell? ⟨SS, 0, none⟩ = some (.pointer t.pp) := cell_below HB.out HC.out
        have c1 := c0
        rw [HN.out.2] at c1
        clear HM HI hm c0
        go_wp2_with fail
        rw [← HN.out.2]
        go_loopg [3, 5] (t.sz + 1) (fun kq v3 v5 w' => ∃ u : Tr, v5 = .pointer u.pp ∧ Aside0 (u.at w' ∧ ∃ lo hi, hi ≤ top64 ∧ u.ok lo hi) ∧ Aside0 (u ≠ .nil → ∃ rest, L = rest ++ u.nums) ∧ Aside0 (u = .nil → ∃ m : Nat, v3 = .int .u64 (m : Int) ∧ L.getLast? = some m) ∧ Aside0 (u.sz < kq) ∧ Aside0 (Below w.heap.size w w'))
        case atStart => exact ⟨t, rfl, ⟨at_keep (chg_below HB.out) t HH.out.1.tr (by simp), 0, top64, Nat.le_refl _, HH.out.1.rep.ok⟩, ⟨fun _ => ⟨[], by rw [List.nil_append, HH.out.1.rep.nums]⟩⟩, ⟨fun e => absurd e HN.out.1⟩, ⟨Nat.lt_succ_self _⟩, HB⟩
        case round =>
          obtain ⟨u, rfl, HU, HI, HM, HK, HB⟩ := hrel
          cases gk with
          | zero => exact absurd HK.out (by omega)
          | succ k2 =>
          cases u with
          | nil =>
            obtain ⟨m', hv3, hm'⟩ := HM.out rfl
            have HMM' := Aside0.mk hm'
            subst hv3
            rw [show (Tr.nil).pp = none from rfl]
            clear HM HI hm'
            go_wp2_with fail
            refine bodyPost_ret (results_tmp2 rfl _ _ _) rfl ?_
            rw [HMM.out, HMM'.out]
            exact ⟨rfl, HB.out⟩
          | node g b bs l r h0 =>
            obtain ⟨hat, lo, hi, htop, hok⟩ := HU.out
            have cl : wr.cell? ⟨g, 34, none⟩ = some (.pointer r.pp) := nd_r hat.2.1 hat.1
            have HA := Aside0.mk (And.intro hat (And.intro htop hok))
            obtain ⟨rest, hrest⟩ := HI.out (by simp)
            have HR := Aside0.mk hrest
            have HS := Aside0.mk (show r.sz < k2 by have := HK.out; rw [Tr.sz] at this; omega)
            rw [show (Tr.node g b bs l r h0).pp = some ⟨g, 0, none⟩ from rfl]
            clear hat htop hok hrest HM HU HI
            cases r with
            | nil =>
              replace cl : wr.cell? ⟨g, 34, none⟩ = some (.pointer none) := cl
              have hc := max_calls g b bs l.p (.pointer none) h0 wr HA.out.1.1 HA.out.1.2.1 (by have := HA.out.2.2.2.2.1; have := HA.out.2.1; unfold top64 at this; omega) HA.out.2.2.2.2.2.2.1 HA.out.2.2.2.2.2.2.2.1
              have HCC := Aside0.mk hc
              clear hc
              go_wp2_with fail
              refine HCC.out.mono ?_
              rintro e w2 ⟨m2, rfl, hm2, n2, rfl⟩
              have HM2 := Aside0.mk hm2
              clear hm2
              have cl2 : (wr.drewN n2).cell? ⟨g, 34, none⟩ = some (.pointer none) := cell_below (pw_below_drewN (Below.refl _ _) n2) cl
              go_wp2_with fail
              go_roundg k2
              case measure => omega
              case rel => exact ⟨.nil, rfl, ⟨trivial, 0, top64, Nat.le_refl _, trivial⟩, ⟨fun e => absurd rfl e⟩, ⟨fun _ => ⟨m2, rfl, by rw [HR.out, Tr.nums]; rw [show (Tr.nil).nums = [] from rfl, List.append_nil, ← List.append_assoc, List.getLast?_append, HM2.out]; rfl⟩⟩, HS, ⟨pw_below_drewN HB.out _⟩⟩
            | node g2 b2 bs2 l2 r2 h2 =>
              replace cl : wr.cell? ⟨g, 34, none⟩ = some (.pointer (some ⟨g2, 0, none⟩)) := cl
              go_wp2_with fail
              go_roundg k2
              case measure => omega
              case rel => exact ⟨.node g2 b2 bs2 l2 r2 h2, rfl, ⟨HA.out.1.2.2.2, b + 2048, hi, HA.out.2.1, HA.out.2.2.2.2.2.2.2.2.2⟩, ⟨fun _ => ⟨rest ++ (l.nums ++ ownF b bs), by rw [HR.out, Tr.nums]; simp only [List.append_assoc]⟩⟩, ⟨fun e => Tr.noConfusion e⟩, HS, HB⟩
      | node g b bs l r h0 =>
        obtain ⟨hat, lo, hi, htop, hok⟩ := HU.out
        have cl : wr.cell? ⟨g, 33, none⟩ = some (.pointer l.pp) := nd_l hat.2.1 hat.1
        have HA := Aside0.mk (And.intro hat (And.intro htop hok))
        obtain ⟨rest, hrest⟩ := HI.out (by simp)
        have HR := Aside0.mk hrest
        have HS := Aside0.mk (show l.sz < k1 by have := HK.out; rw [Tr.sz] at this; omega)
        rw [show (Tr.node g b bs l r h0).pp = some ⟨g, 0, none⟩ from rfl]
        clear hat htop hok hrest HM HU HI
        cases l with
        | nil =>
          replace cl : wr.cell? ⟨g, 33, none⟩ = some (.pointer none) := cl
          have hc := min_calls g b bs (.pointer none) r.p h0 wr HA.out.1.1 HA.out.1.2.1 (by have := HA.out.2.2.2.2.1; have := HA.out.2.1; unfold top64 at this; omega) HA.out.2.2.2.2.2.2.1 HA.out.2.2.2.2.2.2.2.1 (tab_below HB.out HH.out.2)
          have HCC := Aside0.mk hc
          clear hc
          go_wp2_with fail
          refine HCC.out.mono ?_
          rintro e w2 ⟨m2, rfl, hm2, n2, rfl⟩
          have HM2 := Aside0.mk hm2
          clear hm2
          have cl2 : (wr.drewN n2).cell? ⟨g, 33, none⟩ = some (.pointer none) := cell_below (pw_below_drewN (Below.refl _ _) n2) cl
          go_wp2_with fail
          go_roundg k1
          case measure => omega
          case rel => exact ⟨.nil, rfl, ⟨trivial, 0, top64, Nat.le_refl _, trivial⟩, ⟨fun e => absurd rfl e⟩, ⟨fun _ => ⟨m2, rfl, by rw [HR.out, Tr.nums]; rw [List.append_assoc, List.append_assoc]; exact head_of rfl HM2.out⟩⟩, HS, ⟨pw_below_drewN HB.out _⟩⟩
        | node g2 b2 bs2 l2 r2 h2 =>
          replace cl : wr.cell? ⟨g, 33, none⟩ = some (.pointer (some ⟨g2, 0, none⟩)) := cl
          go_wp2_with fail
          go_roundg k1
          case measure => omega
          case rel => exact ⟨.node g2 b2 bs2 l2 r2 h2, rfl, ⟨HA.out.1.2.2.1, lo, b, by have := HA.out.2.2.2.2.1; have := HA.out.2.1; omega, HA.out.2.2.2.2.2.2.2.2.1⟩, ⟨fun _ => ⟨ownF b bs ++ (r.nums ++ rest), by rw [HR.out, Tr.nums]; simp only [List.append_assoc]⟩⟩, ⟨fun e => Tr.noConfusion e⟩, HS, HB⟩
theorem Size_calls (SS : Nat) (t : Tr) (L : List Nat) (w : World) (h : SetAt w SS t L) :
    Calls Tryd.prog 41 #[.pointer (some ⟨SS, 0, none⟩)] w fun e w' => e = .returned (.int .i64 (L.length : Nat)) ∧ w' = w := by
  have c1 : w.cell? ⟨SS, 1, none⟩ = some (.int .i64 (L.length : Nat)) := cell_of_row w SS 1 _ _ _ h.ss
  clear h
  go_enter Tryd.func41, Tryd.ntmps41
  go_wp2_with fail
  go_ret
  exact ⟨rfl, rfl⟩
theorem IsEmpty_calls (SS : Nat) (t : Tr) (L : List Nat) (w : World) (h : SetAt w SS t L) :
    Calls Tryd.prog 40 #[.pointer (some ⟨SS, 0, none⟩)] w fun e w' => e = .returned (.bool (L.length == 0)) ∧ w' = w := by
  have c0 : w.cell? ⟨SS, 0, none⟩ = some (.pointer t.pp) := cell_of_row w SS 0 _ _ _ h.ss
  have hr := h.rep
  clear h
  cases t with
  | nil =>
    replace c0 : w.cell? ⟨SS, 0, none⟩ = some (.pointer none) := c0
    have e : L = [] := hr.nums.symm
    subst e
    clear hr
    go_enter Tryd.func40, Tryd.ntmps40
    go_wp2_with fail
    go_ret
    exact ⟨rfl, rfl⟩
  | node g b bs l r k =>
    replace c0 : w.cell? ⟨SS, 0, none⟩ = some (.pointer (some ⟨g, 0, none⟩)) := c0
    have hn := nums_ne hr.ok (by simp)
    rw [hr.nums] at hn
    have e : (L.length == 0) = false := by rw [beq_eq_false_iff_ne]; intro e; exact hn (List.length_eq_zero_iff.1 e)
    have HE := Aside0.mk e
    clear hr hn e
    go_enter Tryd.func40, Tryd.ntmps40
    go_wp2_with fail
    go_ret
    rw [HE.out]
    exact ⟨rfl, rfl⟩
theorem State_calls (SS : Nat) (t : Tr) (L : List Nat) (w : World) (h : SetAt w SS t L) (hT : TabAt 3 Lib.deBruijn64tab w) (hl : L.length ≤ 9000) :
    Calls Tryd.prog 38 #[.pointer (some ⟨SS, 0, none⟩)] w fun e w' => e = .returned (.tuple #[.int .u64 ((L.head?.getD 0 : Nat) : Int), .int .u64 ((L.getLast?.getD 0 : Nat) : Int), .int .u64 (L.length : Nat)]) ∧ Below w.heap.size w w' := by
  have c0 : w.cell? ⟨SS, 0, none⟩ = some (.pointer t.pp) := cell_of_row w SS 0 _ _ _ h.ss
  by_cases hn : t = .nil
  · subst hn
    replace c0 : w.cell? ⟨SS, 0, none⟩ = some (.pointer none) := c0
    have e : L = [] := h.rep.nums.symm
    subst e
    clear h hT
    go_enter Tryd.func38, Tryd.ntmps38
    go_wp2_with fail
    refine bodyPost_ret (results_tmp3 rfl _ _ _) rfl ?_
    exact ⟨rfl, Below.refl _ _⟩
  · obtain ⟨g0, hg0⟩ : ∃ g0, t.pp = some ⟨g0, 0, none⟩ := by
      cases t with
      | nil => exact absurd rfl hn
      | node g b bs l r k => exact ⟨g, rfl⟩
    rw [hg0] at c0
    have u1 : IntKind.u64.wrap (L.length : Int) = (L.length : Int) := Road.wu64 _ _ rfl (by omega) (by omega)
    have HM := Aside0.mk (And.intro (MinMax_calls SS t L w h hT) h)
    clear h hT hn hg0 hl
    go_enter Tryd.func38, Tryd.ntmps38
    go_wp2_with fail
    refine HM.out.1.mono ?_
    rintro e w2 ⟨rfl, hb2⟩
    have HB := Aside0.mk hb2
    clear hb2
    go_wp2_with fail
    refine (Size_calls SS t L w2 (set_below HM.out.2 HB.out)).mono ?_
    rintro e w3 ⟨rfl, rfl⟩
    go_wp2_with fail
    refine bodyPost_ret (results_tmp3 rfl _ _ _) rfl ?_
    exact ⟨rfl, HB.out⟩
set_option maxHeartbeats 4000000 in
theorem SetState_walk (A : Option Addr) (c : Nat) (acts : List (Int × Int)) (w : World) (hA : ActsAt w A acts) (hac : acts.length ≤ c) (hF : Formed acts) (hl : acts.length ≤ 9000) (hT : TabAt 3 Lib.deBruijn64tab w) :
    Calls Tryd.prog 20 #[.slice A acts.length c] w fun e w' => e = .returned (.tuple #[.int .u64 (((actsL [] acts).head?.getD 0 : Nat) : Int), .int .u64 (((actsL [] acts).getLast?.getD 0 : Nat) : Int), .int .u64 ((actsL [] acts).length : Nat)]) ∧ Below w.heap.size w w' := by
  have HS := Aside0.mk (set_make A c acts w hA hac hF hl)
  have HT := Aside0.mk (And.intro hT (show (actsL [] acts).length ≤ 9000 by have := actsL_le acts []; simp only [List.length_nil] at this; omega))
  clear hA hac hF hl hT
  go_enter Tryd.func20, Tryd.ntmps20
  go_wp2_with fail
  refine HS.out.mono ?_
  rintro e w3 ⟨SS, t, rfl, hS3, hss, hx, hb3, he⟩
  have H3 := Aside0.mk (And.intro hS3 hb3)
  clear hS3 hss hx hb3 he
  go_wp2_with fail
  refine (State_calls SS t _ w3 H3.out.1 (tab_below H3.out.2 HT.out.1) HT.out.2).mono ?_
  rintro e w4 ⟨rfl, hb4⟩
  have H4 := Aside0.mk hb4
  clear hb4
  go_wp2_with fail
  refine bodyPost_ret (results_tmp3 rfl _ _ _) rfl ?_
  exact ⟨rfl, below_step H3.out.2 H4.out⟩
set_option maxHeartbeats 4000000 in
theorem SetEnds_walk (A : Option Addr) (c : Nat) (acts : List (Int × Int)) (w : World) (hA : ActsAt w A acts) (hac : acts.length ≤ c) (hF : Formed acts) (hl : acts.length ≤ 9000) (hT : TabAt 3 Lib.deBruijn64tab w) :
    Calls Tryd.prog 21 #[.slice A acts.length c] w fun e w' => e = .returned (.tuple #[.int .u64 (((actsL [] acts).head?.getD 0 : Nat) : Int), .int .u64 (((actsL [] acts).getLast?.getD 0 : Nat) : Int), .bool ((actsL [] acts).length == 0), .int .i64 ((actsL [] acts).length : Nat)]) ∧ Below w.heap.size w w' := by
  have HS := Aside0.mk (set_make A c acts w hA hac hF hl)
  have HT := Aside0.mk hT
  clear hA hac hF hl hT
  go_enter Tryd.func21, Tryd.ntmps21
  go_wp2_with fail
  refine HS.out.mono ?_
  rintro e w3 ⟨SS, t, rfl, hS3, hss, hx, hb3, he⟩
  have H3 := Aside0.mk (And.intro hS3 hb3)
  clear hS3 hss hx hb3 he
  go_wp2_with fail
  refine (MinMax_calls SS t _ w3 H3.out.1 (tab_below H3.out.2 HT.out)).mono ?_
  rintro e w4 ⟨rfl, hb4⟩
  have H4 := Aside0.mk (And.intro hb4 (set_below H3.out.1 hb4))
  clear hb4
  go_wp2_with fail
  refine (IsEmpty_calls SS t _ w4 H4.out.2).mono ?_
  rintro e w5 ⟨rfl, rfl⟩
  go_wp2_with fail
  refine (Size_calls SS t _ w5 H4.out.2).mono ?_
  rintro e w6 ⟨rfl, rfl⟩
  go_wp2_with fail
  refine bodyPost_ret (Road.results_tmp4 rfl _ _ _) rfl ?_
  exact ⟨rfl, below_step H3.out.2 H4.out.1⟩

end Go.Proofs.YtjhdnapgdajllaaDoor.SetStateW
