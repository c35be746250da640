/- WALKS: a wheel written, a wheel read. -/
import Derived.Test.YtnkjlfadegjjoaaDoorProg
import Derived.Below
import Derived.Deep.Draws
import Derived.Deep.AppendLies
import Derived.Maps.AppendAt
import Derived.OwnWalk
import Derived.Laws.BytesArg
import Derived.Laws.MakeOwn
import Derived.Laws.OwnMore
import Derived.Deep.OwnRows
import Derived.Tactics
import Derived.Lib.ConvBytes
import Derived.Laws.Slices
import Derived.WalkKit
import Derived.KernelRfl
import Derived.RowKit3
import Derived.Deep.LoopGhost
import Derived.Deep.QuietTactic
import Derived.BigQuiet
import Derived.WideLaws
import Derived.Deep.DeepCutAuto
import Derived.Deep.CutBlock
import Derived.Deep.RegionHeld3
import Derived.Laws.Rows
import Derived.Lib.AppendStr
import Derived.ArgAppend
import Derived.Laws.IdiomCopy
import Derived.OrdersHeld
import Derived.Laws.BitsLemmas
import Derived.RowKit
import Derived.Test.YtnkjlfadegjjoaaDoorWWords
import Derived.Test.YtnkjlfadegjjoaaDoorWLast
import Derived.Test.YtnkjlfadegjjoaaDoorWTab
import Derived.Test.YtnkjlfadegjjoaaDoorWFour
import Derived.Test.YtnkjlfadegjjoaaDoorWQPut
import Derived.Test.YtnkjlfadegjjoaaDoorWApart
import Derived.Test.YtnkjlfadegjjoaaDoorWArr
import Derived.Test.YtnkjlfadegjjoaaDoorWZeros
import Derived.Test.YtnkjlfadegjjoaaDoorWFoot
import Derived.Test.YtnkjlfadegjjoaaDoorWKept
import Derived.Test.YtnkjlfadegjjoaaDoorWShare
import Derived.Test.YtnkjlfadegjjoaaDoorWN
import Derived.Test.YtnkjlfadegjjoaaDoorWFootNe
import Derived.Test.YtnkjlfadegjjoaaDoorWAt
import Derived.Test.YtnkjlfadegjjoaaDoorWEqStruct
import Derived.Test.YtnkjlfadegjjoaaDoorWRepsOne
import Derived.Test.YtnkjlfadegjjoaaDoorWInv
import Derived.Test.YtnkjlfadegjjoaaDoorWInvWords
import Derived.Test.YtnkjlfadegjjoaaDoorWGuard
import Derived.Test.YtnkjlfadegjjoaaDoorWNEv
import Derived.Test.YtnkjlfadegjjoaaDoorWMore
import Derived.Test.YtnkjlfadegjjoaaDoorWhT
import Derived.Test.YtnkjlfadegjjoaaDoorShelf
import Derived.Lib.VarintDec
import Derived.Lib.Varint
import Derived.Lib.Endian
import Derived.Lib.EndianBits
namespace Go.Proofs.YtnkjlfadegjjoaaDoor.WhE
open Go.RowKit Go.Proofs.YtnkjlfadegjjoaaDoorW.PrintWords Go.Proofs.YtnkjlfadegjjoaaDoorW.PrintLast Go.Proofs.YtnkjlfadegjjoaaDoorW.PrintMore
attribute [local go_sem] max2_int min2_int max_two min_two max_three min_three max_four min_four   -- for this text's walks alone
set_option linter.unusedVariables false
set_option linter.unusedSimpArgs false



open Go.Maps
open _root_.Go.Proofs.YtnkjlfadegjjoaaDoor.WhA
open _root_.Go.Proofs.YtnkjlfadegjjoaaDoor.WhB
open _root_.Go.Proofs.YtnkjlfadegjjoaaDoor.WhC
open _root_.Go.Proofs.YtnkjlfadegjjoaaDoor.WhS
open _root_.Go.Proofs.YtnkjlfadegjjoaaDoor.WhP
open _root_.Go.Proofs.YtnkjlfadegjjoaaDoor.WhT
/-! ### a row of bytes that grows beside a wheel -/
def OwnB (w : World) (B : Nat) (v : Value) (bs : List UInt8) : Prop := w.ownsRow B 5 1 v bs.length (Lib.byteCells bs)
/-- Rows of bytes may have turned; a wheel, its maps and what walks over them stay. -/
structure ChB (B : Nat) (w w' : World) : Prop where
  os : w'.os = w.os
  tape : w'.tape = w.tape
  output : w'.output = w.output
  size : w.heap.size ≤ w'.heap.size
  low : ∀ k, k < B → k < w.heap.size → w'.heap[k]? = w.heap[k]?
  keep : ∀ (k : Nat) (o : Obj), w.heap[k]? = some o → wk o = true → w'.heap[k]? = some o
theorem ChB.refl (B : Nat) (w : World) : ChB B w w := ⟨rfl, rfl, rfl, Nat.le_refl _, fun _ _ _ => rfl, fun _ _ h _ => h⟩
theorem ChB.trans {B : Nat} {a b c : World} (h : ChB B a b) (k : ChB B b c) : ChB B a c :=
  ⟨k.os.trans h.os, k.tape.trans h.tape, k.output.trans h.output, Nat.le_trans h.size k.size, fun i hi hs => (k.low i hi (Nat.lt_of_lt_of_le hs h.size)).trans (h.low i hi hs), fun i o ho hk => k.keep i o (h.keep i o ho hk) hk⟩
theorem ChB.of_below {B : Nat} {a b : World} (h : Below a.heap.size a b) : ChB B a b :=
  ⟨h.os, h.tape, h.output, h.size, fun k _ hs => h.block k hs, fun k o ho _ => (h.block k (Array.getElem?_eq_some_iff.1 ho).1).trans ho⟩
theorem ChB.below {B : Nat} {a b : World} (h : ChB B a b) (hB : B ≤ a.heap.size) : Below B a b := ⟨h.os, h.tape, h.output, h.size, fun k hk => h.low k hk (Nat.lt_of_lt_of_le hk hB)⟩
theorem ChB.grown {B n : Nat} {w w' : World} {v : Value} {xs : List Value} (h : w.ownsRow B 5 1 v n xs) (hg : w.grownBy w' v.ownBlock) : ChB B w w' :=
  ⟨hg.os, hg.tape, hg.output, hg.size, fun k hk hs => hg.block k hs (fun e => by have := (h.lt k e.symm).1; omega), fun k o ho hk => (hg.block k (Array.getElem?_eq_some_iff.1 ho).1 (fun e => by
    obtain ⟨cells, hc⟩ := own_typed h k e.symm
    rw [hc] at ho
    injection ho with ho
    rw [← ho] at hk
    exact absurd hk (by simp [wk]))).trans ho⟩
def valN : Value → Nat
  | .int _ z => z.toNat
  | _ => 0
theorem valN_lt {k k' : IntKind} {y z : Nat} (h : y < z) : valN (.int k (y : Int)) < valN (.int k' (z : Int)) := by
  show (y : Int).toNat < (z : Int).toNat
  omega
theorem infoB : (Tryd.prog.info? 5).map (fun i => (i.zero, i.size, i.bytes)) = some (some (.int .u8 0), 1, 1) := by kernel_rfl
theorem byte_snoc (bs pre : List UInt8) (c : Nat) (h : c < 256) : Lib.byteCells (bs ++ pre) ++ [Value.int .u8 (c : Int)] = Lib.byteCells (bs ++ (pre ++ [c.toUInt8])) := by
  rw [← List.append_assoc, Lib.byteCells_snoc _ h]
theorem own_snoc {w : World} {B n : Nat} {v : Value} {bs pre : List UInt8} {xs : List Value} (h : w.ownsRow B 5 1 v n xs) (hn : n = (bs ++ pre).length) (hx : xs = Lib.byteCells (bs ++ pre)) : OwnB w B v (bs ++ pre) := by
  subst hn hx
  exact h
set_option maxHeartbeats 16000000 in
set_option maxRecDepth 100000 in
theorem auv_calls (B x : Nat) (hx : x < 18446744073709551616) (sv : Value) (bs : List UInt8) (w : World) (hown : OwnB w B sv bs) (hB : B ≤ w.heap.size) (hlim : bs.length + 10 ≤ 140737488355328) :
    Calls Tryd.prog 37 #[sv, .int .u64 (x : Int)] w fun e w' => ∃ v', e = .returned v' ∧ OwnB w' B v' (bs ++ Lib.uvarint x) ∧ ChB B w w' := by
  obtain ⟨i0, hi, hzz⟩ := Option.map_eq_some_iff.1 infoB
  simp only [Prod.mk.injEq] at hzz
  obtain ⟨hz0, hz1, hz2⟩ := hzz
  have HI := Aside0.mk (And.intro hi (And.intro hz0 (And.intro hz1 hz2)))
  have HA := Aside0.mk (And.intro hx (And.intro hown (And.intro hB (And.intro hlim (Lib.uvarint_length64 hx)))))
  clear hx hown hB hlim hi hz0 hz1 hz2
  go_enter Tryd.func37, Tryd.ntmps37
  go_wp2_with fail
  go_loopw [0, 1] (fun vb vx wr => ∃ (y : Nat) (pre : List UInt8), vx = .int .u64 (y : Int) ∧ Aside0 (y ≤ x ∧ Lib.uvarint x = pre ++ Lib.uvarint y ∧ OwnB wr B vb (bs ++ pre) ∧ ChB B w wr)) (fun _ vx _ => valN vx)
  case atStart => exact ⟨x, [], rfl, ⟨Nat.le_refl _, rfl, by rw [List.append_nil]; exact HA.out.2.1, ChB.refl _ _⟩⟩
  case round =>
    obtain ⟨y, pre, rfl, HY⟩ := hrel
    have HP := Aside0.mk (show pre.length + (Lib.uvarint y).length ≤ 10 ∧ 1 ≤ (Lib.uvarint y).length ∧ y < 18446744073709551616 from ⟨by
      have h2 := congrArg List.length HY.out.2.1
      rw [List.length_append] at h2
      have := HA.out.2.2.2.2
      omega, Lib.uvarint_pos y, Nat.lt_of_le_of_lt HY.out.1 HA.out.1⟩)
    by_cases h128 : 128 ≤ y
    · have hor : bits .or .u8 ((y : Int) % 256) 128 = ((y % 128 + 128 : Nat) : Int) := by
        rw [Lib.u8_or128_any _ (by omega) (by omega)]
        omega
      obtain ⟨c, hc⟩ : ∃ c, c = y % 128 + 128 := ⟨_, rfl⟩
      obtain ⟨y2, hy2⟩ : ∃ y2, y2 = y / 128 := ⟨_, rfl⟩
      have hsh : (y : Int) / 128 = (y2 : Int) := by rw [hy2]; omega
      have HC := Aside0.mk (And.intro hc (And.intro hy2 h128))
      rw [← hc] at hor
      have q1 := eq_true (show 128 ≤ (y : Int) by omega)
      have q2 := eq_true h128
      have q3 : decide (128 ≤ (y : Int)) = true := decide_eq_true (show 128 ≤ (y : Int) by omega)
      clear hc hy2 h128
      go_wp2_with (first | (at_builtin; refine wpList_append_own _ rfl _ _ 57 rfl B 5 i0 (.int .u8 0) 1 1 Tryd.underlying57 HI.out.1 HI.out.2.1 HI.out.2.2.1 HI.out.2.2.2 rfl (by decide) _ _ _ rfl (HY.out.2.2.1.alloc _) ⟨wr.heap.size, 0, none⟩ 1 1 [Value.int .u8 (c : Int)] rfl rfl ?c1 ?c2 ?c3 ?c4 ?c5 ?_) | fail)
      case c1 =>
        intro j u hj
        match j, hj with
        | 0, hj => simp at hj; subst hj; simp [Addr.add]
      case c2 => intro u hu; simp at hu; subst hu; rfl
      case c3 => have := HP.out; have := HA.out.2.2.2.1; rw [List.length_append]; unfold maxLen; omega
      case c4 => have := HP.out; have := HA.out.2.2.2.1; rw [List.length_append]; omega
      case c5 => have := HY.out.2.2.2.size; have := HA.out.2.2.1; simp; omega
      intro v' w1 hown' hgrow _
      have hch := (HY.out.2.2.2.trans (ChB.of_below (below_alloc (Below.refl _ wr) (.cells #[Value.int .u8 (c : Int)] 5)))).trans (ChB.grown (HY.out.2.2.1.alloc _) hgrow)
      have H1 := Aside0.mk (And.intro hown' hch)
      clear hown' hgrow hch
      go_wp2_with fail
      go_roundw
      case rel =>
        refine ⟨y2, pre ++ [c.toUInt8], rfl, ⟨?_, ?_, ?_, H1.out.2⟩⟩
        · have := HY.out.1; have := HC.out.2.1; omega
        · rw [HY.out.2.1, Lib.uvarint_big HC.out.2.2, HC.out.1, HC.out.2.1, List.append_assoc]; rfl
        · rw [← List.append_assoc]
          refine own_snoc H1.out.1 (by simp only [List.length_append, List.length_singleton]) ?_
          rw [Lib.byteCells_snoc _ (by have := HC.out.1; omega)]
      case measure => exact valN_lt (by have := HC.out; omega)
    · have hsm : Lib.uvarint y = [y.toUInt8] := Lib.uvarint_small (by omega)
      have hcv : (y : Int) % 256 = (y : Int) := by omega
      have q1 := eq_false (show ¬ 128 ≤ (y : Int) by omega)
      have q2 := eq_false h128
      have q3 : decide (128 ≤ (y : Int)) = false := decide_eq_false (show ¬ 128 ≤ (y : Int) by omega)
      have HC := Aside0.mk (And.intro hsm h128)
      clear hsm h128
      go_wp2_with (first | (at_builtin; refine wpList_append_own _ rfl _ _ 57 rfl B 5 i0 (.int .u8 0) 1 1 Tryd.underlying57 HI.out.1 HI.out.2.1 HI.out.2.2.1 HI.out.2.2.2 rfl (by decide) _ _ _ rfl (HY.out.2.2.1.alloc _) ⟨wr.heap.size, 0, none⟩ 1 1 [Value.int .u8 (y : Int)] rfl rfl ?c1 ?c2 ?c3 ?c4 ?c5 ?_) | fail)
      case c1 =>
        intro j u hj
        match j, hj with
        | 0, hj => simp at hj; subst hj; simp [Addr.add]
      case c2 => intro u hu; simp at hu; subst hu; rfl
      case c3 => have := HP.out; have := HA.out.2.2.2.1; rw [List.length_append]; unfold maxLen; omega
      case c4 => have := HP.out; have := HA.out.2.2.2.1; rw [List.length_append]; omega
      case c5 => have := HY.out.2.2.2.size; have := HA.out.2.2.1; simp; omega
      intro v' w1 hown' hgrow _
      have hch := (HY.out.2.2.2.trans (ChB.of_below (below_alloc (Below.refl _ wr) (.cells #[Value.int .u8 (y : Int)] 5)))).trans (ChB.grown (HY.out.2.2.1.alloc _) hgrow)
      have H1 := Aside0.mk (And.intro hown' hch)
      clear hown' hgrow hch
      go_wp2_with fail
      go_ret
      refine ⟨v', rfl, ?_, H1.out.2⟩
      rw [HY.out.2.1, HC.out.1, ← List.append_assoc]
      refine own_snoc H1.out.1 (by simp only [List.length_append, List.length_singleton]) ?_
      rw [Lib.byteCells_snoc _ (by have := HC.out.2; omega)]
set_option maxHeartbeats 16000000 in
set_option maxRecDepth 100000 in
theorem av_calls (B : Nat) (x : Int) (hx : 0 ≤ x ∧ x ≤ 1152921504606846976) (sv : Value) (bs : List UInt8) (w : World) (hown : OwnB w B sv bs) (hB : B ≤ w.heap.size) (hlim : bs.length + 10 ≤ 140737488355328) :
    Calls Tryd.prog 36 #[sv, .int .i64 x] w fun e w' => ∃ v', e = .returned v' ∧ OwnB w' B v' (bs ++ Lib.uvarint (Lib.zigzag x)) ∧ ChB B w w' := by
  obtain ⟨u, hu⟩ : ∃ u, u = Lib.zigzag x := ⟨_, rfl⟩
  rw [← hu]
  have hz : ((u : Nat) : Int) = x * 2 := by rw [hu]; exact Lib.zigzag_nonneg hx.1
  have hz' : x * 2 = ((u : Nat) : Int) := hz.symm
  have HC := Aside0.mk (auv_calls B u (by omega) sv bs w hown hB hlim)
  have q1 := eq_false (show ¬ x < 0 by omega)
  have q2 : decide (x < 0) = false := decide_eq_false (show ¬ x < 0 by omega)
  have HE := Aside0.mk (And.intro (Road.wu64 x x rfl (by omega) (by omega)) (Road.wu64 (x * 2) ((u : Nat) : Int) hz' (by omega) (by omega)))
  clear hx hown hB hlim hu hz hz'
  have e1 := HE.out.1
  have e2 := HE.out.2
  go_enter Tryd.func36, Tryd.ntmps36
  go_wp2_with fail
  refine HC.out.mono ?_
  rintro en w1 ⟨v', rfl, ho, hch⟩
  have H1 := Aside0.mk (And.intro ho hch)
  clear ho hch
  go_wp2_with fail
  go_ret
  exact ⟨v', rfl, H1.out.1, H1.out.2⟩
/-! ### what is written is what is read -/
theorem uvf : ∀ (x i acc : Nat) (rest : List UInt8), i ≤ 9 → x * 2 ^ (7 * i) < 18446744073709551616 → Lib.uvarintFrom i acc (Lib.uvarint x ++ rest) = (acc + x * 2 ^ (7 * i), (i : Int) + ((Lib.uvarint x).length : Int)) := by
  intro x
  induction x using Nat.strongRecOn with
  | _ x ih =>
    intro i acc rest hi hx
    by_cases h : x < 128
    · rw [Lib.uvarint_small h]
      have hb : (x.toUInt8).toNat = x := Lib.toUInt8_toNat (by omega)
      show Lib.uvarintFrom i acc (x.toUInt8 :: rest) = _
      unfold Lib.uvarintFrom
      rw [if_neg (by omega), hb, if_pos h, if_neg]
      · rfl
      · rintro ⟨rfl, h1⟩
        have e : (2 : Nat) ^ (7 * 9) = 9223372036854775808 := by decide
        rw [e] at hx
        omega
    · rw [Lib.uvarint_big (by omega)]
      have hb : ((x % 128 + 128).toUInt8).toNat = x % 128 + 128 := Lib.toUInt8_toNat (by omega)
      have hp : 2 ^ (7 * (i + 1)) = 2 ^ (7 * i) * 128 := by rw [Nat.mul_add, Nat.pow_add]
      obtain ⟨p, hpp⟩ : ∃ p, p = 2 ^ (7 * i) := ⟨_, rfl⟩
      rw [← hpp] at hp hx
      have hi9 : i + 1 ≤ 9 := by
        rcases Nat.lt_or_ge (i + 1) 10 with q | q
        · omega
        · have h9 : i = 9 := by omega
          subst h9
          have : p = 9223372036854775808 := by rw [hpp]
          subst this
          omega
      have hdiv : x / 128 * (p * 128) ≤ x * p := by
        rw [Nat.mul_comm p 128, ← Nat.mul_assoc]
        exact Nat.mul_le_mul_right p (Nat.div_mul_le_self x 128)
      have h2 := ih (x / 128) (by omega) (i + 1) (acc + (x % 128 + 128) % 128 * p) rest hi9 (by rw [hp]; omega)
      show Lib.uvarintFrom i acc ((x % 128 + 128).toUInt8 :: (Lib.uvarint (x / 128) ++ rest)) = _
      unfold Lib.uvarintFrom
      rw [if_neg (by omega), hb, if_neg (by omega), ← hpp, h2, hp]
      refine Prod.ext ?_ ?_
      · show acc + (x % 128 + 128) % 128 * p + x / 128 * (p * 128) = acc + x * p
        have e1 : (x % 128 + 128) % 128 = x % 128 := by omega
        rw [e1]
        have e2 : x / 128 * (p * 128) = x / 128 * 128 * p := by rw [Nat.mul_comm p 128, Nat.mul_assoc]
        rw [e2, Nat.add_assoc, ← Nat.add_mul]
        have e3 : x % 128 + x / 128 * 128 = x := by omega
        rw [e3]
      · show ((i + 1 : Nat) : Int) + ((Lib.uvarint (x / 128)).length : Int) = (i : Int) + ((((x % 128 + 128).toUInt8 :: Lib.uvarint (x / 128)).length : Nat) : Int)
        rw [List.length_cons]
        omega
theorem udec (x : Nat) (rest : List UInt8) (h : x < 18446744073709551616) : Lib.uvarintDec (Lib.uvarint x ++ rest) = (x, ((Lib.uvarint x).length : Int)) := by
  unfold Lib.uvarintDec
  rw [uvf x 0 0 rest (by omega) (by simpa using h)]
  simp
theorem vdec (e : Int) (rest : List UInt8) (h : 0 ≤ e ∧ e ≤ 1152921504606846976) : Lib.varintDec (Lib.uvarint (Lib.zigzag e) ++ rest) = (e, ((Lib.uvarint (Lib.zigzag e)).length : Int)) := by
  have hz := Lib.zigzag_nonneg h.1
  unfold Lib.varintDec
  rw [udec _ rest (by omega)]
  refine Prod.ext ?_ rfl
  show Lib.unzigzag (Lib.zigzag e) = e
  unfold Lib.unzigzag
  rw [if_pos (by omega)]
  omega
def enc1 (y : Tk) : List UInt8 := Lib.uvarint (Lib.zigzag y.2) ++ Lib.uvarint y.1.toNat
def encL (xs : List Tk) : List UInt8 := xs.flatMap enc1
def hdrB (n high : Nat) : List UInt8 := [(1 : Nat).toUInt8] ++ Lib.leBytes 8 n ++ Lib.leBytes 8 high
theorem hdrB_len (n high : Nat) : (hdrB n high).length = 17 := by
  unfold hdrB
  rw [List.length_append, List.length_append, Lib.leBytes_length, Lib.leBytes_length]
  rfl
theorem encL_snoc (xs : List Tk) (y : Tk) : encL (xs ++ [y]) = encL xs ++ Lib.uvarint (Lib.zigzag y.2) ++ Lib.uvarint y.1.toNat := by
  unfold encL
  rw [List.flatMap_append, List.flatMap_singleton, List.append_assoc]
  rfl
def TkOk (y : Tk) : Prop := wfU y.1 ∧ 0 ≤ y.2 ∧ y.2 ≤ 1152921504606846976
theorem enc1_len {y : Tk} (h : TkOk y) : (enc1 y).length ≤ 20 := by
  obtain ⟨h1, h2, h3⟩ := h
  unfold wfU at h1
  have hz := Lib.zigzag_nonneg h2
  have a := Lib.uvarint_length64 (x := Lib.zigzag y.2) (by omega)
  have b := Lib.uvarint_length64 (x := y.1.toNat) (by omega)
  unfold enc1
  rw [List.length_append]
  omega
theorem encL_len : ∀ (xs : List Tk), (∀ y ∈ xs, TkOk y) → (encL xs).length ≤ 20 * xs.length
  | [], _ => by simp [encL]
  | x :: xs, h => by
    have h1 := encL_len xs (fun y hy => h y (List.mem_cons_of_mem _ hy))
    have h2 := enc1_len (h x List.mem_cons_self)
    have e : (encL (x :: xs)).length = (enc1 x).length + (encL xs).length := by
      unfold encL
      rw [List.flatMap_cons, List.length_append]
    rw [e, List.length_cons]
    omega
/-! ### Encode -/
theorem load_LE : ∀ w : World, (Instr.loadAt 69 (.pointer (some ⟨2, 0, none⟩))).run Tryd.prog w = .ok (.agg #[]) w := fun w => by kernel_rfl
theorem map_neq_nil (m : Nat) : ∀ w : World, (binOp .eql 77 (.map (some m)) (.map none)).run Tryd.prog w = .ok (.bool false) w := fun w => by kernel_rfl
structure EncO (B : Nat) (w0 : World) (l : List Tk) (H : List UInt8) (i : Nat) (xs : List Tk) (v : Value) (w : World) : Prop where
  own : OwnB w B v (H ++ encL xs)
  ch : ChB B w0 w
  nd : xs.Nodup
  mem : ∀ y, y ∈ xs ↔ y ∈ l ∧ pos y.2 < i
structure EncI (N B : Nat) (w0 : World) (l : List Tk) (H : List UInt8) (i m r : Nat) (left : Lit → Bool) (cnt : Nat) (D : DataW Unit) (xs : List Tk) (v : Value) (w : World) : Prop where
  rng : w.ranges Tryd.prog 32 (plainElem Tryd.prog 2) m r N D left cnt
  own : OwnB w B v (H ++ encL xs)
  ch : ChB B w0 w
  nd : xs.Nodup
  mem : ∀ y, y ∈ xs ↔ y ∈ l ∧ (pos y.2 < i ∨ (pos y.2 = i ∧ left (kL y.1) = false))
theorem OwnB.keep {w w' : World} {B : Nat} {v : Value} {bs : List UInt8} (h : OwnB w B v bs) (hk : ∀ (k : Nat) (o : Obj), w.heap[k]? = some o → wk o = false → w'.heap[k]? = some o) : OwnB w' B v bs :=
  own_move h (fun k hk' => by
    obtain ⟨cells, hc⟩ := own_typed h k hk'
    rw [hc]
    exact hk k _ hc rfl)
theorem ChB.far {B g : Nat} {w0 w w' : World} (h : ChB B w0 w) (hg : w.grownBy w' (some g)) (hB : B ≤ g) (hs : w0.heap.size ≤ g) : ChB B w0 w' :=
  ⟨hg.os.trans h.os, hg.tape.trans h.tape, hg.output.trans h.output, Nat.le_trans h.size hg.size, fun k hk hs' => (hg.block k (Nat.lt_of_lt_of_le hs' h.size) (fun e => by injection e with e; omega)).trans (h.low k hk hs'), fun k o ho hk => by
    have hk0 : k < w0.heap.size := (Array.getElem?_eq_some_iff.1 ho).1
    exact (hg.block k (Nat.lt_of_lt_of_le hk0 h.size) (fun e => by injection e with e; omega)).trans (h.keep k o ho hk)⟩
theorem len_of_mem {xs l : List Tk} (hn : xs.Nodup) (hs : ∀ y ∈ xs, y ∈ l) : xs.length ≤ l.length := hn.length_le_of_subset hs
theorem own_of {w : World} {B n : Nat} {v : Value} {bs : List UInt8} {xs : List Value} (h : w.ownsRow B 5 1 v n xs) (hn : n = bs.length) (hx : xs = Lib.byteCells bs) : OwnB w B v bs := by
  subst hn hx
  exact h
set_option maxHeartbeats 40000000 in
set_option maxRecDepth 100000 in
theorem enc_calls (N B0 hb : Nat) (ex : Prop) (l : List Tk) (high : Nat) (w : World) (h : WheelAt N w B0 hb ex l) (hh : high < 18446744073709551616) :
    Calls Tryd.prog 24 #[.pointer (some ⟨hb, 0, none⟩), .int .u64 (high : Int)] w fun e w' => ∃ v' xs, e = .returned v' ∧ xs.Perm l ∧ OwnB w' w.heap.size v' (hdrB l.length high ++ encL xs) ∧ ChB w.heap.size w w' := by
  obtain ⟨wb, lo, sl, hM, hL⟩ := h
  obtain ⟨i0, hi, hzz⟩ := Option.map_eq_some_iff.1 infoB
  simp only [Prod.mk.injEq] at hzz
  obtain ⟨hz0, hz1, hz2⟩ := hzz
  have HI := Aside0.mk (And.intro hi (And.intro hz0 (And.intro hz1 hz2)))
  obtain ⟨B, hB⟩ : ∃ B, B = w.heap.size := ⟨_, rfl⟩
  rw [← hB]
  obtain ⟨n, hn⟩ : ∃ n, n = l.length := ⟨_, rfl⟩
  have hlen := hL.len
  rw [← hn] at hlen hM
  rw [← hn]
  obtain ⟨cp, hcp⟩ : ∃ cp : Nat, cp = 17 + n * 20 := ⟨_, rfl⟩
  have HW := Aside0.mk (And.intro (Road.wu64 ((n : Int) * 20) ((n : Int) * 20) rfl (by omega) (by omega)) (Road.wu64 (17 + (n : Int) * 20) (cp : Int) (by omega) (by omega) (by omega)))
  have hmk := run_make (P := Tryd.prog) w 57 5 i0 (.int .u8 0) Tryd.underlying57 hi hz0 .i64 .u64 0 (cp : Int) (by decide) (by omega) (by rw [hz2]; omega) (by omega)
  obtain ⟨cur, hcur⟩ : ∃ cur, cur = madeCells (Value.int .u8 0).cells ((cp : Int).toNat * i0.size) := ⟨_, rfl⟩
  have hcs : cur.size = cp * 1 := by rw [hcur, hz1]; simp [madeCells, Value.cells]
  have ecp : (cp : Int).toNat = cp := by omega
  have e0 : (0 : Int).toNat = 0 := rfl
  rw [← hcur, ecp, e0, ← hB] at hmk
  have HAL := Aside0.mk (And.intro (World.ownsRow_made w cur cp (base := B) (e := 5) (size := 1) (by omega) (by unfold maxLen; omega) hcs) (below_alloc (Below.refl _ w) (.cells cur 5)))
  rw [← hB] at HAL
  have HA := Aside0.mk (And.intro hM (And.intro hL (And.intro hB (And.intro hh (And.intro hn hlen)))))
  have c0 : w.cell? ⟨hb, 0, none⟩ = some (.slice (some ⟨wb, 0, none⟩) 4096 4096) := (cell_of_row w hb 0 _ _ _ hM.hd).trans rfl
  have c2 : w.cell? ⟨hb, 2, none⟩ = some (.int .u64 (n : Int)) := (cell_of_row w hb 2 _ _ _ hM.hd).trans rfl
  have e1 := HW.out.1
  have e2 := HW.out.2
  have HC0 := Aside0.mk c0
  clear hM hL hB hh hi hz0 hz1 hz2 hcur hcs ecp e0 hlen hcp hn c0
  have hld := load_LE
  obtain ⟨H, hH⟩ : ∃ H, H = hdrB n high := ⟨_, rfl⟩
  rw [← hH]
  have HH := Aside0.mk hH
  clear hH
  go_enter Tryd.func24, Tryd.ntmps24
  go_wp2_with (first | (at_builtin; refine wpList_append_own _ rfl _ _ 57 rfl B 5 i0 (.int .u8 0) 1 1 Tryd.underlying57 HI.out.1 HI.out.2.1 HI.out.2.2.1 HI.out.2.2.2 rfl (by decide) _ _ _ rfl (HAL.out.1.alloc _) ⟨_, 0, none⟩ 1 1 [Value.int .u8 1] rfl rfl ?c1 ?c2 ?c3 ?c4 ?c5 ?_) | fail)
  case c1 =>
    intro j u hj
    match j, hj with
    | 0, hj => simp at hj; subst hj; simp [Addr.add]
  case c2 => intro u hu; simp at hu; subst hu; rfl
  case c3 => unfold maxLen; omega
  case c4 => omega
  case c5 => have := HAL.out.2.size; have := HA.out.2.2.1; simp at this ⊢; omega
  intro v1 w1 hown1 hgrow _
  have hb1 : Below B w w1 := by
    have h1 := (ChB.of_below (B := B) (below_alloc (below_alloc (Below.refl _ w) (.cells cur 5)) (.cells #[Value.int .u8 1] 5))).trans (ChB.grown (HAL.out.1.alloc _) hgrow)
    exact h1.below (by rw [HA.out.2.2.1]; exact Nat.le_refl _)
  have H1 := Aside0.mk (And.intro hown1 hb1)
  have hkeep : ∀ (W : World), Below B w W → W.heap[hb]? = w.heap[hb]? := fun W hW => hW.block hb (by rw [HA.out.2.2.1]; exact (Array.getElem?_eq_some_iff.1 HA.out.1.hd).1)
  have HK := Aside0.mk hkeep
  have c2 : w1.cell? ⟨hb, 2, none⟩ = some (.int .u64 (n : Int)) := (cell_same (hkeep w1 hb1) 2).trans c2
  have HC2 := Aside0.mk (Tryd.binary_LE_AppendUint64 B 1 n (by have := HA.out.2.2.2.2.2; omega) v1 _ w1.drew (by have := H1.out.1; exact own_move this (fun k hk => rfl)) (Nat.le_trans (by rw [HA.out.2.2.1]; exact Nat.le_refl _) hb1.size) (by decide))
  clear hown1 hgrow hb1 hkeep hmk e1 e2
  go_wp2_with fail
  go_still_tail 6, (by kernel_rfl)
  change wpList _ _ _ _ _ w1.drew
  go_wp2_with fail
  refine HC2.out.mono ?_
  rintro en w2 ⟨v2, rfl, ho2, hb2⟩
  have hb02 : Below B w w2 := (below_drew H1.out.2).trans (hb2.mono (Nat.le_refl _))
  have H2 := Aside0.mk (And.intro ho2 hb02)
  have HC3 := Aside0.mk (Tryd.binary_LE_AppendUint64 B (1 + 8) high HA.out.2.2.2.1 v2 _ w2 ho2 (Nat.le_trans (by rw [HA.out.2.2.1]; exact Nat.le_refl _) hb02.size) (by decide))
  clear ho2 hb2 hb02 HC2 c2
  go_wp2_with fail
  refine HC3.out.mono ?_
  rintro en w3 ⟨v3, rfl, ho3, hb3⟩
  have hb03 : Below B w w3 := H2.out.2.trans hb3
  have hH := HH.out
  have hHl : H.length = 17 := by rw [hH]; exact hdrB_len n high
  have ho3' : OwnB w3 B v3 H := by
    refine own_of ho3 (by rw [hHl]) ?_
    rw [hH]
    unfold hdrB
    rw [Lib.byteCells_append, Lib.byteCells_append]
    rfl
  have H3 := Aside0.mk (And.intro ho3' (And.intro hb03 (And.intro hHl hH)))
  have c0 : w3.cell? ⟨hb, 0, none⟩ = some (.slice (some ⟨wb, 0, none⟩) 4096 4096) := (cell_same (HK.out w3 hb03) 0).trans HC0.out
  clear ho3 ho3' hb3 hb03 hHl hH HC3
  go_wp2_with fail
  go_loopw [5, 36] (fun v5 v36 wr => ∃ (i : Nat) (xs : List Tk), v36 = .int .i64 (i : Int) ∧ Aside0 (i ≤ 4096) ∧ Aside0 (EncO B w l H i xs v5 wr)) (fun _ v36 _ => Road.leftOf 4096 v36)
  case atStart => exact ⟨0, [], rfl, ⟨Nat.zero_le _⟩, ⟨by rw [show encL [] = [] from rfl, List.append_nil]; exact H3.out.1, ChB.of_below (by have := H3.out.2.1; rw [HA.out.2.2.1] at this; exact this), List.nodup_nil, fun y => ⟨fun h => by simp at h, fun h => absurd h.2 (Nat.not_lt_zero _)⟩⟩⟩
  case round =>
    obtain ⟨i, xs, rfl, HI4, HO⟩ := hrel
    clear c0
    rcases Nat.lt_or_ge i 4096 with hi | hi
    · have i1 := eq_true (show (i : Int) < 4096 by omega)
      have i2 := eq_true hi
      have HWI := Aside0.mk (Road.wrap_nat i (by omega))
      have hrow := HO.out.ch.keep _ _ HA.out.1.row rfl
      cases hs0 : sl i with
      | none =>
        have cp : wr.cell? ⟨wb, i, none⟩ = some (.pointer none) := (cell_of_row wr wb i _ _ _ hrow).trans ((rowOf_get sl i hi).trans (by rw [hs0]; rfl))
        have HS0 := Aside0.mk hs0
        clear hs0 hi hrow
        go_wp2_with fail
        go_roundw
        case rel =>
          have hno := HA.out.2.1.none i (of_eq_true i2) HS0.out
          refine ⟨i + 1, xs, congrArg (Value.int .i64) HWI.out, ⟨of_eq_true i2⟩, ⟨HO.out.own, HO.out.ch, HO.out.nd, fun y => ?_⟩⟩
          rw [HO.out.mem y]
          constructor
          · rintro ⟨a, b⟩
            exact ⟨a, by omega⟩
          · rintro ⟨a, b⟩
            have := hno y a
            exact ⟨a, by omega⟩
        case measure => rw [HWI.out]; exact Road.leftOf_lt (of_eq_true i2)
      | some s =>
        have cp : wr.cell? ⟨wb, i, none⟩ = some (.pointer (some ⟨s.b, 0, none⟩)) := (cell_of_row wr wb i _ _ _ hrow).trans ((rowOf_get sl i hi).trans (by rw [hs0]; rfl))
        obtain ⟨hsb, hsm, hsc, hma⟩ := HA.out.1.slot i hi s hs0
        have k0 : wr.cell? ⟨s.b, 0, none⟩ = some (.map (some s.m)) := (cell_of_row wr s.b 0 _ _ _ (HO.out.ch.keep _ _ hsc rfl)).trans rfl
        obtain ⟨es, cc, hmo⟩ := hma.obj
        obtain ⟨D, hown, hD⟩ := hma.keep ((HO.out.ch.keep _ _ hmo rfl).trans hmo.symm)
        have HS := Aside0.mk (And.intro hs0 (And.intro hsm (And.intro hmo hD)))
        have hmn := map_neq_nil s.m
        have zeroE : ∀ w, (zeroValue 2).run Tryd.prog w = .ok (.int .i64 0) w := fun w => by kernel_rfl
        clear hs0 hi hrow hsb hsm hsc hma hmo hD
        go_wp2_with (first | (at_range; refine wpList_range_own _ rfl _ 77 rfl 32 2 lawU Tryd.underlying77 _ s.m N D rfl hown ?_; intro w4 hrg0 hg0 hs1) | go_in)
        go_frame
        obtain ⟨r, hr⟩ : ∃ r, r = wr.heap.size := ⟨_, rfl⟩
        rw [← hr] at hrg0 ⊢
        have hbl : Below wr.heap.size wr w4 := ⟨hg0.os, hg0.tape, hg0.output, hg0.size, fun k hk => hg0.block k hk (by simp)⟩
        have HI0 := Aside0.mk (show EncI N B w l H i s.m r (Maps.has D) (Maps.size D) D xs u5 w4 from ⟨hrg0, HO.out.own.keep (fun k o ho _ => (hbl.block k (Array.getElem?_eq_some_iff.1 ho).1).trans ho), HO.out.ch.trans (ChB.of_below hbl), HO.out.nd, fun y => (HO.out.mem y).trans ⟨fun q => ⟨q.1, .inl q.2⟩, fun q => ⟨q.1, q.2.elim id (fun q2 => by
          have := (HS.out.2.2.2.1 y.1 (HA.out.2.1.all y q.1).1).2 ⟨y.2, q.1, q2.1⟩
          rw [this] at q2
          exact absurd q2.2 (by simp))⟩⟩⟩)
        have HR := Aside0.mk (show w.heap.size ≤ r by rw [hr]; exact HO.out.ch.size)
        clear hrg0 hg0 hs1 hr hbl hown cp k0 hmn
        go_loopw [5] (fun v5 wx => ∃ (left : Lit → Bool) (cnt : Nat) (ys : List Tk), Aside0 (EncI N B w l H i s.m r left cnt D ys v5 wx)) (fun _ wx => wx.rangeLeft s.m r)
        case atStart => exact ⟨_, _, xs, HI0⟩
        case round =>
          obtain ⟨left, cnt, ys, HI5⟩ := hrel
          clear HI0
          have hrgI := HI5.out.rng
          go_wp2_with (first | (at_next; refine wpList_next_ranges_ii _ rfl _ rfl 32 2 .u64 .i64 lawU Tryd.underlying32 Tryd.underlying2 s.m r N _ _ _ rfl hrgI ?_ ?_) | fail)
          · intro hc0 hl0
            have HL0 := Aside0.mk hl0
            clear hc0 hl0 hrgI
            go_wp2_with fail
            go_roundw
            case rel =>
              refine ⟨i + 1, ys, congrArg (Value.int .i64) HWI.out, ⟨of_eq_true i2⟩, ⟨HI5.out.own, HI5.out.ch, HI5.out.nd, fun y => (HI5.out.mem y).trans ⟨fun q => ⟨q.1, q.2.elim (fun a => by omega) (fun a => by have := a.1; omega)⟩, fun q => ⟨q.1, ?_⟩⟩⟩⟩
              rcases Nat.lt_or_ge (pos y.2) i with c | c
              · exact .inl c
              · exact .inr ⟨by have := q.2; omega, HL0.out _⟩
            case measure => rw [HWI.out]; exact Road.leftOf_lt (of_eq_true i2)
          · intro x c w5 cnt1 hwx hwc hlx hat hrg1 hlt hg1 hs1 hen
            have hx : wfU x := U_of_wf hwx
            have hLx : (x, c) ∈ l ∧ pos c = i := MapIs.of_at HS.out.2.2.2 hx hat
            have hr0 : w.heap.size ≤ r := HR.out
            have hBr : B ≤ r := by rw [HA.out.2.2.1]; exact hr0
            have hch5 : ChB B w w5 := HI5.out.ch.far hg1 hBr hr0
            have hob : OwnB w5 B u5 (H ++ encL ys) := own_move HI5.out.own (fun k hk => hg1.block k (HI5.out.own.lt k hk).2 (fun e => by
              injection e with e
              subst e
              obtain ⟨cells, hc⟩ := own_typed HI5.out.own k hk
              obtain ⟨⟨o, ho, hk1, _⟩, _⟩ := ranges_objs hrgI
              rw [hc] at ho
              injection ho with ho
              rw [← ho] at hk1
              exact absurd hk1 (by simp [wk])))
            have hyl : (encL ys).length ≤ 20 * ys.length := encL_len ys (fun y hy => HA.out.2.1.all y ((HI5.out.mem y).1 hy).1)
            have hyn : ys.length ≤ 1000000 := Nat.le_trans (len_of_mem HI5.out.nd (fun y hy => ((HI5.out.mem y).1 hy).1)) HA.out.2.1.len
            have hlim : (H ++ encL ys).length + 20 ≤ 140737488355328 := by
              rw [List.length_append, H3.out.2.2.1]
              omega
            have hTk := HA.out.2.1.all (x, c) hLx.1
            obtain ⟨xn, hxn⟩ : ∃ xn : Nat, x = (xn : Int) := ⟨x.toNat, by have := hTk.1; unfold wfU at this; omega⟩
            subst hxn
            have hxu : xn < 18446744073709551616 := by have := hx; unfold wfU at this; omega
            have hB5 : B ≤ w5.heap.size := by rw [HA.out.2.2.1]; exact hch5.size
            have HCA := Aside0.mk (av_calls B c hTk.2 u5 (H ++ encL ys) w5 hob hB5 (by omega))
            have HN := Aside0.mk (show ((xn : Int), c) ∉ ys ∧ left (kL (xn : Int)) = true from ⟨fun q => by
              obtain ⟨_, q2⟩ := (HI5.out.mem ((xn : Int), c)).1 q
              rcases q2 with q2 | q2
              · have q3 : pos c < i := q2
                have := hLx.2
                omega
              · rw [show left (kL ((xn : Int), c).1) = true from hlx] at q2
                exact absurd q2.2 (by simp), hlx⟩)
            have H5 := Aside0.mk (And.intro hch5 (And.intro hrg1 (And.intro hLx (And.intro hxu hlim))))
            have HLT := Aside0.mk hlt
            clear hwx hwc hlx hat hrg1 hlt hg1 hs1 hx hLx hr0 hBr hch5 hob hyl hyn hlim hTk hxu hB5 hrgI
            go_wp2_with fail
            refine HCA.out.mono ?_
            rintro en w6 ⟨v6, rfl, ho6, hch6⟩
            have hrg6 := ranges_keep H5.out.2.1 (by
              obtain ⟨_, o, ho, hk⟩ := ranges_objs H5.out.2.1
              exact (hch6.keep _ o ho hk).trans ho.symm) (by
              obtain ⟨⟨o, ho, hk, _⟩, _⟩ := ranges_objs H5.out.2.1
              exact (hch6.keep _ o ho hk).trans ho.symm)
            have hch06 := H5.out.1.trans hch6
            have hB6 : B ≤ w6.heap.size := by rw [HA.out.2.2.1]; exact hch06.size
            have HCB := Aside0.mk (auv_calls B xn H5.out.2.2.2.1 v6 _ w6 ho6 hB6 (by
              have h1 := H5.out.2.2.2.2
              have h2 : wfU (xn : Int) ∧ 0 ≤ c ∧ c ≤ 1152921504606846976 := HA.out.2.1.all _ H5.out.2.2.1.1
              have h3 := Lib.zigzag_nonneg h2.2.1
              have h4 := Lib.uvarint_length64 (x := Lib.zigzag c) (by have := h2.2.2; omega)
              rw [List.length_append]
              omega))
            have H6 := Aside0.mk (And.intro hch06 hrg6)
            clear ho6 hch6 hrg6 hch06 hB6 HCA
            go_wp2_with fail
            refine HCB.out.mono ?_
            rintro en w7 ⟨v7, rfl, ho7, hch7⟩
            have hrg7 := ranges_keep H6.out.2 (by
              obtain ⟨_, o, ho, hk⟩ := ranges_objs H6.out.2
              exact (hch7.keep _ o ho hk).trans ho.symm) (by
              obtain ⟨⟨o, ho, hk, _⟩, _⟩ := ranges_objs H6.out.2
              exact (hch7.keep _ o ho hk).trans ho.symm)
            have FIN := Aside0.mk (show EncI N B w l H i s.m r (strike left xn) cnt1 D (ys ++ [((xn : Int), c)]) v7 w7 from ⟨hrg7, by
              rw [encL_snoc, ← List.append_assoc, ← List.append_assoc]
              have : ((xn : Int), c).1.toNat = xn := by omega
              rw [this]
              exact ho7, H6.out.1.trans hch7, List.nodup_append.2 ⟨HI5.out.nd, List.nodup_cons.2 ⟨List.not_mem_nil, List.nodup_nil⟩, fun a ha b hb => by
                rw [List.mem_singleton.1 hb]
                exact fun e => HN.out.1 (e ▸ ha)⟩, fun y => by
              rw [List.mem_append, List.mem_singleton, HI5.out.mem y]
              constructor
              · rintro (⟨a, b⟩ | rfl)
                · exact ⟨a, b.imp id (fun q => ⟨q.1, strike_false.2 (.inl q.2)⟩)⟩
                · exact ⟨H5.out.2.2.1.1, .inr ⟨H5.out.2.2.1.2, strike_false.2 (.inr rfl)⟩⟩
              · rintro ⟨a, b⟩
                rcases b with b | ⟨b1, b2⟩
                · exact .inl ⟨a, .inl b⟩
                · rcases strike_false.1 b2 with q | q
                  · exact .inl ⟨a, .inr ⟨b1, q⟩⟩
                  · refine .inr (Prod.ext q ?_)
                    have h1 : (y.1, y.2) ∈ l := a
                    rw [q] at h1
                    exact key_one HA.out.2.1.nd h1 H5.out.2.2.1.1⟩)
            clear ho7 hch7 hrg7 HCB
            go_wp2_with fail
            go_roundw
            case rel => exact ⟨_, cnt1, _, FIN⟩
            case measure => rw [FIN.out.rng.left_eq, HI5.out.rng.left_eq]; exact HLT.out
    · have i1 := eq_false (show ¬ (i : Int) < 4096 by omega)
      have i2 := eq_false (show ¬ i < 4096 by omega)
      have hi4 : i = 4096 := by have := HI4.out; omega
      subst hi4
      go_wp2_with fail
      go_ret
      refine ⟨_, xs, rfl, ?_, HO.out.own, HO.out.ch⟩
      refine (List.perm_ext_iff_of_nodup HO.out.nd (nodup_of_keys HA.out.2.1.nd)).2 (fun y => (HO.out.mem y).trans ⟨fun q => q.1, fun q => ⟨q, pos_lt _⟩⟩)
/-! ### Decode -/
def BAt (w : World) (g : Nat) (bs : List UInt8) : Prop := ∀ j (hj : j < bs.length), w.cell? ⟨g, j, none⟩ = some (.int .u8 (bs[j]).toNat)
theorem BAt.keep {w w' : World} {g : Nat} {bs : List UInt8} (h : BAt w g bs) (hk : w'.heap[g]? = w.heap[g]?) : BAt w' g bs := fun j hj => (cell_same hk j).trans (h j hj)
theorem BAt.drop {w : World} {g : Nat} {bs l : List UInt8} (h : BAt w g bs) {o : Nat} (ho : o ≤ bs.length) (hd : bs.drop o = l) : ∀ j (hj : j < l.length), w.cell? ⟨g, o + j, none⟩ = some (.int .u8 (l[j]).toNat) := fun j hj => by
  subst hd
  rw [List.length_drop] at hj
  rw [h (o + j) (by omega), List.getElem_drop]
theorem own_BAt {w : World} {B : Nat} {v : Value} {bs : List UInt8} (h : OwnB w B v bs) (hn : 0 < bs.length) : ∃ g cap cells, v = .slice (some ⟨g, 0, none⟩) bs.length cap ∧ B ≤ g ∧ bs.length ≤ cap ∧ BAt w g bs ∧ w.heap[g]? = some (.cells cells 5 (0, 0)) := by
  obtain ⟨h1, h2⟩ := h
  rcases h2 with ⟨_, h0⟩ | ⟨g, cap, cur, rfl, hg, hh, hc, _, hs, ht⟩
  · omega
  · refine ⟨g, cap, cur, rfl, hg, hc, fun j hj => ?_, hh⟩
    rw [cell_of_row w g j _ _ _ hh]
    have e : (cur.toList.take (bs.length * 1))[j]? = (Lib.byteCells bs)[j]? := by rw [ht]
    rw [List.getElem?_take_of_lt (by omega)] at e
    rw [← Array.getElem?_toList, e]
    unfold Lib.byteCells
    rw [List.getElem?_map, List.getElem?_eq_getElem hj]
    rfl
theorem le64_calls (g o n c v : Nat) (bs rest : List UInt8) (w : World) (hb : BAt w g bs) (ho : o ≤ bs.length) (hd : bs.drop o = Lib.leBytes 8 v ++ rest) (hv : v < 18446744073709551616) (hn : 8 ≤ n) :
    Calls Tryd.prog 32 #[.agg #[], .slice (some ⟨g, o, none⟩) n c] w fun e w' => e = .returned (.int .u64 (v : Int)) ∧ Below w.heap.size w w' := by
  have hc := hb.drop ho hd
  obtain ⟨b0, b1, b2, b3, b4, b5, b6, b7, hl⟩ : ∃ b0 b1 b2 b3 b4 b5 b6 b7, Lib.leBytes 8 v = [b0, b1, b2, b3, b4, b5, b6, b7] := ⟨_, _, _, _, _, _, _, _, rfl⟩
  have hv2 := Lib.leNat_leBytes 8 v (by simpa using hv)
  rw [hl] at hv2
  rw [hl] at hc
  have := Tryd.binary_LE_Uint64 g o n c b0 b1 b2 b3 b4 b5 b6 b7 w hn (hc 0 (by simp)) (hc 1 (by simp)) (hc 2 (by simp)) (hc 3 (by simp)) (hc 4 (by simp)) (hc 5 (by simp)) (hc 6 (by simp)) (hc 7 (by simp))
  rw [hv2] at this
  exact this
theorem var_calls (g o n c : Nat) (e : Int) (bs rest : List UInt8) (w : World) (hb : BAt w g bs) (ho : o ≤ bs.length) (hd : bs.drop o = Lib.uvarint (Lib.zigzag e) ++ rest) (he : 0 ≤ e ∧ e ≤ 1152921504606846976) (hn : bs.length = o + n) :
    Calls Tryd.prog 33 #[.slice (some ⟨g, o, none⟩) n c] w fun en w' => en = .returned (.tuple #[.int .i64 e, .int .i64 ((Lib.uvarint (Lib.zigzag e)).length : Int)]) ∧ w' = w := by
  have h := Tryd.binary_Varint g o n c (Lib.uvarint (Lib.zigzag e) ++ rest) w (by have := congrArg List.length hd; rw [List.length_drop] at this; omega) (hb.drop ho hd)
  rw [vdec e rest he] at h
  exact h
theorem uvar_calls (g o n c x : Nat) (bs rest : List UInt8) (w : World) (hb : BAt w g bs) (ho : o ≤ bs.length) (hd : bs.drop o = Lib.uvarint x ++ rest) (hx : x < 18446744073709551616) (hn : bs.length = o + n) :
    Calls Tryd.prog 34 #[.slice (some ⟨g, o, none⟩) n c] w fun en w' => en = .returned (.tuple #[.int .u64 (x : Int), .int .i64 ((Lib.uvarint x).length : Int)]) ∧ w' = w := by
  have h := Tryd.binary_Uvarint g o n c (Lib.uvarint x ++ rest) w (by have := congrArg List.length hd; rw [List.length_drop] at this; omega) (hb.drop ho hd)
  rw [udec x rest hx] at h
  exact h
theorem below_toW {B : Nat} {w w' : World} (h : Below w.heap.size w w') : ChW B w w' := ChW.of_below h
theorem below_cell {w w' : World} (h : Below w.heap.size w w') {a : Addr} {v : Value} (hc : w.cell? a = some v) : w'.cell? a = some v :=
  (World.cell?_of_block (h.block a.block (World.block_lt_of_cell? w a hc))).trans hc
theorem dec_keep {B2 hb2 g : Nat} {w W w' : World} {bs : List UInt8} (h : WheelAt 0 W B2 hb2 True []) (hc : ChW B2 w W) (hb : BAt W g bs) (hw : Below W.drew.heap.size W.drew w') : WheelAt 0 w' B2 hb2 True [] ∧ ChW B2 w w' ∧ BAt w' g bs := by
  have hbl : Below W.heap.size W w' := (below_drew (Below.refl _ W)).trans hw
  exact ⟨h.keep (fun k o ho _ => (hbl.block k (Array.getElem?_eq_some_iff.1 ho).1).trans ho), hc.trans (ChW.of_below hbl), fun j hj => below_cell hbl (hb j hj)⟩
structure DecI (B2 hb2 : Nat) (w0 : World) (g : Nat) (bs : List UInt8) (xs ds ys : List Tk) (o : Nat) (w : World) : Prop where
  wh : WheelAt ds.length w B2 hb2 True ds.reverse
  ch : ChW B2 w0 w
  at_ : BAt w g bs
  eq : xs = ds ++ ys
  le : o ≤ bs.length
  rest : bs.drop o = encL ys
set_option maxHeartbeats 40000000 in
set_option maxRecDepth 100000 in
theorem dec_calls (N B2 hb2 : Nat) (xs : List Tk) (high B : Nat) (v : Value) (w : World) (h : WheelAt N w B2 hb2 True []) (hb : B2 ≤ w.heap.size) (hown : OwnB w B v (hdrB xs.length high ++ encL xs)) (hok : ∀ y ∈ xs, TkOk y) (hnd : (xs.map (·.1)).Nodup) (hl : xs.length < 1000000) (hh : high < 18446744073709551616) :
    Calls Tryd.prog 23 #[.pointer (some ⟨hb2, 0, none⟩), v] w fun e w' => e = .returned (.tuple #[.int .u64 (high : Int), Value.nilIface]) ∧ WheelAt xs.length w' B2 hb2 True xs.reverse ∧ ChW B2 w w' := by
  obtain ⟨bs, hbs⟩ : ∃ bs, bs = hdrB xs.length high ++ encL xs := ⟨_, rfl⟩
  rw [← hbs] at hown
  have hbl : bs.length = 17 + (encL xs).length := by rw [hbs, List.length_append, hdrB_len]
  have hel := encL_len xs hok
  obtain ⟨g, cap, cells, rfl, -, hcap, hBA, hgo⟩ := own_BAt hown (by omega)
  obtain ⟨n, hn⟩ : ∃ n, n = bs.length := ⟨_, rfl⟩
  rw [← hn] at hcap ⊢
  obtain ⟨wb0, lo0, sl0, hM, hL⟩ := h
  obtain ⟨cnt, hcnt⟩ : ∃ cnt, cnt = xs.length := ⟨_, rfl⟩
  have hd1 : bs.drop 1 = Lib.leBytes 8 cnt ++ (Lib.leBytes 8 high ++ encL xs) := by rw [hbs, hcnt]; unfold hdrB; rw [List.append_assoc, List.append_assoc]; rfl
  have hd9 : bs.drop 9 = Lib.leBytes 8 high ++ encL xs := by
    have h1 : bs.drop 9 = (bs.drop 1).drop 8 := by rw [List.drop_drop]
    rw [h1, hd1, List.drop_append, Lib.leBytes_length, Nat.sub_self, List.drop_zero, List.drop_of_length_le (by rw [Lib.leBytes_length]; exact Nat.le_refl _), List.nil_append]
  have hd17 : bs.drop 17 = encL xs := by
    have h1 : bs.drop 17 = (bs.drop 9).drop 8 := by rw [List.drop_drop]
    rw [h1, hd9, List.drop_append, Lib.leBytes_length, Nat.sub_self, List.drop_zero, List.drop_of_length_le (by rw [Lib.leBytes_length]; exact Nat.le_refl _), List.nil_append]
  have hc0 : w.cell? ⟨g, 0, none⟩ = some (.int .u8 1) := by
    rw [hBA 0 (by omega)]
    have : bs[0]'(by omega) = (1 : Nat).toUInt8 := by subst hbs; rfl
    rw [this]
    rfl
  -- the new row of slots, the head
  obtain ⟨i0, hi, hz0, hz1, hz2⟩ := info_parts (P := Tryd.prog) (e := 76) (z := .pointer none) (size := 1) (bytes := 8) (by kernel_rfl)
  have hr := run_make (P := Tryd.prog) w 59 76 i0 (.pointer none) Tryd.underlying59 hi hz0 .i64 .i64 4096 4096 (by decide) (by decide) (by rw [hz2]; decide) (by decide)
  obtain ⟨X, hX⟩ : ∃ X, X = rowOf (fun _ => none) := ⟨_, rfl⟩
  have eX : madeCells (Value.pointer none).cells (Int.toNat 4096 * i0.size) = X := by rw [hz1, hX]; exact made_row
  rw [eX] at hr
  obtain ⟨wb, hwb⟩ : ∃ wb, wb = w.heap.size := ⟨_, rfl⟩
  have hr' : (Instr.makeSlice 59 (.int .i64 4096) (.int .i64 4096)).run Tryd.prog w = .ok (.slice (some ⟨wb, 0, none⟩) 4096 4096) (w.alloc (.cells X 76)) := by rw [hwb]; exact hr
  obtain ⟨w1, hw1⟩ : ∃ w1, w1 = w.alloc (.cells X 76) := ⟨_, rfl⟩
  rw [← hw1] at hr'
  have hhb : hb2 < w.heap.size := (Array.getElem?_eq_some_iff.1 hM.hd).1
  have hne : hb2 ≠ wb := by rw [hwb]; omega
  have hd1' : w1.heap[hb2]? = some (.cells #[.slice (some ⟨wb0, 0, none⟩) 4096 4096, .int .i64 lo0, .int .u64 (([] : List Tk).length : Int)] 61 (0, 0)) := by rw [hw1]; exact (Below.heap_alloc _ _ _ hhb).trans hM.hd
  have f1 : w1.frozen? ⟨hb2, 0, none⟩ = false := Road.frozen_of_heap hd1'
  obtain ⟨w2, hw2⟩ : ∃ w2, w2 = w1.setCell ⟨hb2, 0, none⟩ (.slice (some ⟨wb, 0, none⟩) 4096 4096) := ⟨_, rfl⟩
  have hd2' : w2.heap[hb2]? = some (.cells #[.slice (some ⟨wb, 0, none⟩) 4096 4096, .int .i64 lo0, .int .u64 0] 61 (0, 0)) := by rw [hw2]; exact Road.setCell_same_heap 0 _ hd1'
  have f2 : w2.frozen? ⟨hb2, 1, none⟩ = false := Road.frozen_of_heap hd2'
  have cA : w1.cell? ⟨hb2, 0, none⟩ = some (.slice (some ⟨wb0, 0, none⟩) 4096 4096) := (cell_of_row w1 hb2 0 _ _ _ hd1').trans rfl
  have cB : w2.cell? ⟨hb2, 1, none⟩ = some (.int .i64 lo0) := (cell_of_row w2 hb2 1 _ _ _ hd2').trans rfl
  obtain ⟨w3, hw3⟩ : ∃ w3, w3 = w2.setCell ⟨hb2, 1, none⟩ (.int .i64 9223372036854775807) := ⟨_, rfl⟩
  have hd3' : w3.heap[hb2]? = some (.cells #[.slice (some ⟨wb, 0, none⟩) 4096 4096, .int .i64 mxT, .int .u64 0] 61 (0, 0)) := by rw [hw3]; exact Road.setCell_same_heap 1 _ hd2'
  have s1 : w1.heap.size = w.heap.size + 1 := by rw [hw1]; simp
  have hch : ChW B2 w w3 := by
    have a1 : ChW B2 w w1 := by rw [hw1]; exact ChW.of_below (below_alloc (Below.refl _ w) _)
    have a2 : ChW B2 w1 w2 := by rw [hw2]; exact ChW.set hM.bh hd1' rfl (grown_setCell w1 hb2 0 _)
    have a3 : ChW B2 w2 w3 := by rw [hw3]; exact ChW.set hM.bh hd2' rfl (grown_setCell w2 hb2 1 _)
    exact (a1.trans a2).trans a3
  have hrow : w3.heap[wb]? = some (.cells X 76 (0, 0)) := by
    have r1 : w1.heap[wb]? = some (.cells X 76 (0, 0)) := by rw [hw1, hwb]; exact heap_alloc_new w _
    rw [hw3, Road.setCell_other_heap w2 1 _ hne, hw2, Road.setCell_other_heap w1 0 _ hne]
    exact r1
  have hW3 : WheelAt 0 w3 B2 hb2 True [] := ⟨wb, mxT, fun _ => none, ⟨hM.bh, by rw [hwb]; exact hb, hd3', by rw [← hX]; exact hrow, fun i _ s h => by simp at h, fun i j s t _ _ h => by simp at h⟩, ⟨fun y h => by simp at h, List.nodup_nil, by simp, Int.le_refl _, fun _ _ _ y h => by simp at h, fun i _ s h => by simp at h, fun _ => ⟨fun i _ s h => by simp at h, .inl ⟨rfl, rfl⟩⟩⟩⟩
  have hg3 : w3.heap[g]? = some (.cells cells 5 (0, 0)) := hch.typ _ _ hgo rfl
  have hBA3 : BAt w3 g bs := hBA.keep (hg3.trans hgo.symm)
  have HA := Aside0.mk (And.intro hbl (And.intro hn (And.intro hcnt (And.intro hd17 (And.intro hok (And.intro hnd (And.intro hl (And.intro hel hcap))))))))
  have H3 := Aside0.mk (And.intro hW3 (And.intro hch (And.intro hBA3 hg3)))
  have HC7 := Aside0.mk (le64_calls g 1 (n - 1) (cap - 1) cnt bs _ w3.drew (hBA3.keep rfl) (by omega) hd1 (by omega) (by omega))
  have HC8 := Aside0.mk (fun (W : World) (hW : BAt W g bs) => le64_calls g 9 (n - 9) (cap - 9) high bs _ W hW (by omega) hd9 hh (by omega))
  have p1 := eq_false (show ¬ n < 17 by omega)
  have p2 := eq_false (show ¬ (n : Int) < 17 by omega)
  have p3 := eq_true (show 0 < n by omega)
  have p4 := eq_true (show (0 : Int) < (n : Int) by omega)
  have p5 := eq_true (show 1 ≤ n by omega)
  have p6 := eq_true (show (1 : Int) ≤ (n : Int) by omega)
  have p7 := eq_true (show 9 ≤ n by omega)
  have p8 := eq_true (show (9 : Int) ≤ (n : Int) by omega)
  have p9 := eq_true (show 17 ≤ n by omega)
  have p10 := eq_true (show (17 : Int) ≤ (n : Int) by omega)
  have p11 := eq_true hcap
  have p12 := eq_false (show ¬ cap = 1 by omega)
  have p13 := eq_false (show ¬ cap = 9 by omega)
  obtain ⟨A17, hA17⟩ : ∃ A17 : Option Addr, A17 = (if cap = 17 then some ⟨g, 0, none⟩ else some ⟨g, 17, none⟩) := ⟨_, rfl⟩
  have HA17 := Aside0.mk (show 17 < cap → A17 = some ⟨g, 17, none⟩ from fun q => by rw [hA17, if_neg (by omega)])
  have p14 := hA17.symm
  clear hA17
  have hld := load_LE
  have HB := Aside0.mk hb
  have HG := Aside0.mk hgo
  clear hbl hn hcnt hd17 hok hnd hl hel hcap hW3 hch hBA3 hg3 hd1 hd9 hh hBA hgo hown hbs hi hz0 hz1 hz2 hr eX hX s1 hrow hd3' hd2' hd1' hM hL hwb hne hhb hb
  clear hw1
  subst hw3 hw2
  go_enter Tryd.func23, Tryd.ntmps23
  go_wp2_with fail
  go_still_tail 3, (by kernel_rfl)
  change wpList _ _ _ _ _ (((w1.setCell ⟨hb2, 0, none⟩ (.slice (some ⟨wb, 0, none⟩) 4096 4096)).setCell ⟨hb2, 1, none⟩ (.int .i64 9223372036854775807)).drew)
  go_wp2_with fail
  refine HC7.out.mono ?_
  rintro en w4 ⟨rfl, hb4⟩
  have H4 := Aside0.mk (dec_keep H3.out.1 H3.out.2.1 H3.out.2.2.1 hb4)
  have HC8' := Aside0.mk (HC8.out w4.drew (H4.out.2.2.keep rfl))
  clear hb4 HC7 HC8 H3
  go_wp2_with fail
  go_still_tail 3, (by kernel_rfl)
  change wpList _ _ _ _ _ (w4.drew)
  go_wp2_with fail
  refine HC8'.out.mono ?_
  rintro en w5 ⟨rfl, hb5⟩
  have H5 := Aside0.mk (dec_keep H4.out.1 H4.out.2.1 H4.out.2.2 hb5)
  clear hb5 HC8' H4
  go_wp2_with fail
  go_loopw [1, 8] (fun v1 v8 wr => ∃ (A : Option Addr) (o m c i : Nat) (ds ys : List Tk), v1 = .slice A m c ∧ v8 = .int .u64 (i : Int) ∧ Aside0 ((0 < m → A = some ⟨g, o, none⟩) ∧ n = o + m ∧ m ≤ c ∧ i = ds.length) ∧ Aside0 (DecI B2 hb2 w g bs xs ds ys o wr)) (fun _ v8 _ => Road.leftOf cnt v8)
  case atStart =>
    obtain ⟨a1, a2, a3, a4, a5, a6, a7, a8, a9⟩ := HA.out
    refine ⟨_, 17, n - 17, cap - 17, 0, [], xs, rfl, rfl, ⟨fun h => HA17.out (by omega), by omega, by omega, rfl⟩, ⟨H5.out.1, H5.out.2.1, H5.out.2.2, rfl, by omega, a4⟩⟩
  case round =>
    obtain ⟨A, o, m, c, i, ds, ys, rfl, rfl, HP, HD⟩ := hrel
    clear p1 p2 p3 p4 p5 p6 p7 p8 p9 p10 p11 p12 p13 p14 hc0
    cases ys with
    | nil =>
      have hi : i = cnt := by
        have h1 := HD.out.eq
        rw [List.append_nil] at h1
        rw [HP.out.2.2.2, HA.out.2.2.1, h1]
      subst hi
      have q1 := eq_false (show ¬ (i : Int) < (i : Int) by omega)
      have q2 := eq_false (show ¬ i < i by omega)
      go_wp2_with fail
      refine bodyPost_ret (results_tmp2 rfl _ _ _) rfl ?_
      have h1 := HD.out.eq
      rw [List.append_nil] at h1
      subst h1
      exact ⟨rfl, HD.out.wh, HD.out.ch⟩
    | cons y ys =>
      obtain ⟨x, e⟩ := y
      have hmem : ((x, e) : Tk) ∈ xs := by rw [HD.out.eq]; exact List.mem_append_right _ List.mem_cons_self
      have hk : wfU x ∧ 0 ≤ e ∧ e ≤ 1152921504606846976 := HA.out.2.2.2.2.1 _ hmem
      obtain ⟨xn, hxn⟩ : ∃ xn : Nat, x = (xn : Int) := ⟨x.toNat, by have := hk.1; unfold wfU at this; omega⟩
      subst hxn
      have hxu : xn < 18446744073709551616 := by have := hk.1; unfold wfU at this; omega
      obtain ⟨a, ha⟩ : ∃ a, a = (Lib.uvarint (Lib.zigzag e)).length := ⟨_, rfl⟩
      obtain ⟨b, hb⟩ : ∃ b, b = (Lib.uvarint xn).length := ⟨_, rfl⟩
      have hrest : bs.drop o = Lib.uvarint (Lib.zigzag e) ++ (Lib.uvarint xn ++ encL ys) := by
        rw [HD.out.rest]
        show (enc1 ((xn : Int), e)) ++ encL ys = _
        unfold enc1
        rw [List.append_assoc]
        rfl
      have hrest2 : bs.drop (o + a) = Lib.uvarint xn ++ encL ys := by
        rw [← List.drop_drop, hrest, List.drop_append, ← ha, Nat.sub_self, List.drop_zero, List.drop_of_length_le (by rw [← ha]; exact Nat.le_refl _), List.nil_append]
      have hrest3 : bs.drop (o + (a + b)) = encL ys := by
        rw [← Nat.add_assoc, ← List.drop_drop, hrest2, List.drop_append, ← hb, Nat.sub_self, List.drop_zero, List.drop_of_length_le (by rw [← hb]; exact Nat.le_refl _), List.nil_append]
      have hlen : n - o = a + (b + (encL ys).length) := by
        have h1 := congrArg List.length hrest
        rw [List.length_drop, List.length_append, List.length_append, ← ha, ← hb, ← HA.out.2.1] at h1
        exact h1
      have ha1 : 1 ≤ a := by rw [ha]; exact Lib.uvarint_pos _
      have hb1 : 1 ≤ b := by rw [hb]; exact Lib.uvarint_pos _
      have ha2 : a ≤ 10 := by rw [ha]; have := Lib.zigzag_nonneg hk.2.1; exact Lib.uvarint_length64 (by omega)
      have hb2' : b ≤ 10 := by rw [hb]; exact Lib.uvarint_length64 hxu
      have hmn : m = a + (b + (encL ys).length) := by have := HP.out.2.1; omega
      have hAA := HP.out.1 (by omega)
      subst hAA
      have hn' : bs.length = n := HA.out.2.1.symm
      have hno := HP.out.2.1
      have hmc := HP.out.2.2.1
      have hcnt : i < cnt := by
        have h1 := congrArg List.length HD.out.eq
        rw [List.length_append, List.length_cons] at h1
        have := HP.out.2.2.2
        have := HA.out.2.2.1
        omega
      have hxsl := HA.out.2.2.2.2.2.2.1
      have hcl := HA.out.2.2.1
      have HV := Aside0.mk (var_calls g o m c e bs _ wr HD.out.at_ HD.out.le hrest hk.2 (by omega))
      have HU := Aside0.mk (uvar_calls g (o + a) (m - a) (c - a) xn bs _ wr HD.out.at_ (by omega) hrest2 hxu (by omega))
      have hdl : ds.length < 1000000 := by have := HP.out.2.2.2; omega
      have hfr : ∀ z, ((xn : Int), z) ∉ ds.reverse := fun z hz => by
        have h1 := HA.out.2.2.2.2.2.1
        rw [HD.out.eq, List.map_append, List.map_cons] at h1
        have h2 := (List.nodup_append.1 h1).2.2 (xn : Int) (List.mem_map.2 ⟨_, List.mem_reverse.1 hz, rfl⟩) (xn : Int) List.mem_cons_self
        exact h2 rfl
      have hBw : B2 ≤ wr.heap.size := Nat.le_trans HB.out HD.out.ch.size
      have HADD := Aside0.mk (add_at ds.length B2 hb2 True ds.reverse (xn : Int) e wr HD.out.wh hBw hdl (by rw [List.length_reverse]; exact hdl) hk.1 hk.2 hfr)
      rw [← ha] at HV
      rw [← hb] at HU
      obtain ⟨q, hq⟩ : ∃ q, q = a + b := ⟨_, rfl⟩
      have HQ := Aside0.mk (Road.w64 ((a : Int) + (b : Int)) (q : Int) (by omega) (by omega) (by omega))
      have HI := Aside0.mk (Road.wu64 ((i : Int) + 1) ((i + 1 : Nat) : Int) (by omega) (by omega) (by omega))
      have r1 := eq_true (show (i : Int) < (cnt : Int) by omega)
      have r2 := eq_true hcnt
      have r3 := eq_false (show ¬ (a : Int) ≤ 0 by omega)
      have r4 := eq_false (show ¬ (b : Int) ≤ 0 by omega)
      have r5 := eq_true (show a ≤ m by omega)
      have r6 := eq_true (show (a : Int) ≤ (m : Int) by omega)
      have r7 := eq_false (show ¬ c = a by omega)
      have r8 := eq_true (show q ≤ m by omega)
      have r9 := eq_true (show (q : Int) ≤ (m : Int) by omega)
      have r10 := eq_true hmc
      have r11 : decide ((a : Int) ≤ 0) = false := decide_eq_false (show ¬ (a : Int) ≤ 0 by omega)
      have r12 : decide ((b : Int) ≤ 0) = false := decide_eq_false (show ¬ (b : Int) ≤ 0 by omega)
      have r13 := eq_false (show ¬ a = 0 by omega)
      have r14 := eq_false (show ¬ b = 0 by omega)
      have HE := Aside0.mk (show n = (o + q) + (m - q) ∧ m - q ≤ c - q ∧ (0 < m - q → ¬ c = q) ∧ o + q ≤ bs.length ∧ bs.drop (o + q) = encL ys from ⟨by omega, by omega, fun _ => by omega, by omega, by rw [hq]; exact hrest3⟩)
      clear hmem hk hxu ha hb hrest hrest2 hrest3 hlen ha1 hb1 ha2 hb2' hmn hn' hno hmc hcnt hxsl hcl hdl hfr hBw hq
      obtain ⟨Aq, hAq⟩ : ∃ Aq : Option Addr, Aq = (if c = q then some ⟨g, o, none⟩ else some ⟨g, o + q, none⟩) := ⟨_, rfl⟩
      have HAQ := Aside0.mk (show 0 < m - q → Aq = some ⟨g, o + q, none⟩ from fun h => by rw [hAq, if_neg (HE.out.2.2.1 h)])
      have r15 := hAq.symm
      have r16 := HQ.out
      clear hAq
      go_wp2_with fail
      refine HV.out.mono ?_
      rintro en wx ⟨rfl, hwx⟩
      subst hwx
      go_wp2_with fail
      refine HU.out.mono ?_
      rintro en wx ⟨rfl, hwx⟩
      subst hwx
      go_wp2_with fail
      refine HADD.out.mono ?_
      rintro en wy ⟨rfl, hwy, hcy⟩
      have HY := Aside0.mk (And.intro hwy hcy)
      clear hwy hcy HV HU HADD
      go_wp2_with fail
      go_roundw
      case rel =>
        refine ⟨Aq, o + q, m - q, c - q, i + 1, ds ++ [((xn : Int), e)], ys, rfl, congrArg (Value.int .u64) HI.out, ⟨HAQ.out, HE.out.1, HE.out.2.1, by rw [List.length_append, List.length_singleton, HP.out.2.2.2]⟩, ⟨?_, HD.out.ch.trans HY.out.2, ?_, by rw [HD.out.eq, List.append_assoc]; rfl, HE.out.2.2.2.1, HE.out.2.2.2.2⟩⟩
        · rw [List.length_append, List.length_singleton, List.reverse_append]
          exact HY.out.1
        · have hgw := HD.out.ch.typ _ _ HG.out rfl
          exact HD.out.at_.keep ((HY.out.2.typ _ _ hgw rfl).trans hgw.symm)
      case measure => rw [HI.out]; exact Road.leftOf_lt (of_eq_true r2)

end Go.Proofs.YtnkjlfadegjjoaaDoor.WhE
