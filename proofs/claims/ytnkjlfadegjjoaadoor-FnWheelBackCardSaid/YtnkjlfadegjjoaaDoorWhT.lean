/- WALKS: turns that are let in; the specification's turns and the wheel's; the law. -/
import Derived.Test.YtnkjlfadegjjoaaDoorProg
import Derived.Below
import Derived.Deep.Draws
import Derived.Deep.AppendLies
import Derived.Maps.AppendAt
import Derived.OwnWalk
import Derived.Laws.BytesArg
import Derived.Laws.MakeOwn
import Derived.Laws.OwnMore
import Derived.Deep.OwnRows
import Derived.Tactics
import Derived.Lib.ConvBytes
import Derived.Laws.Slices
import Derived.WalkKit
import Derived.KernelRfl
import Derived.RowKit3
import Derived.Deep.LoopGhost
import Derived.Deep.QuietTactic
import Derived.BigQuiet
import Derived.WideLaws
import Derived.Deep.DeepCutAuto
import Derived.Deep.CutBlock
import Derived.Deep.RegionHeld3
import Derived.Laws.Rows
import Derived.Lib.AppendStr
import Derived.ArgAppend
import Derived.Laws.IdiomCopy
import Derived.OrdersHeld
import Derived.Laws.BitsLemmas
import Derived.RowKit
import Derived.Test.YtnkjlfadegjjoaaDoorRoad
import Derived.Test.YtnkjlfadegjjoaaDoorWWords
import Derived.Test.YtnkjlfadegjjoaaDoorWLast
import Derived.Test.YtnkjlfadegjjoaaDoorWTab
import Derived.Test.YtnkjlfadegjjoaaDoorWFour
import Derived.Test.YtnkjlfadegjjoaaDoorWQPut
import Derived.Test.YtnkjlfadegjjoaaDoorWApart
import Derived.Test.YtnkjlfadegjjoaaDoorWArr
import Derived.Test.YtnkjlfadegjjoaaDoorWZeros
import Derived.Test.YtnkjlfadegjjoaaDoorWFoot
import Derived.Test.YtnkjlfadegjjoaaDoorWKept
import Derived.Test.YtnkjlfadegjjoaaDoorWShare
import Derived.Test.YtnkjlfadegjjoaaDoorWN
import Derived.Test.YtnkjlfadegjjoaaDoorWFootNe
import Derived.Test.YtnkjlfadegjjoaaDoorWAt
import Derived.Test.YtnkjlfadegjjoaaDoorWEqStruct
import Derived.Test.YtnkjlfadegjjoaaDoorWRepsOne
import Derived.Test.YtnkjlfadegjjoaaDoorWInv
import Derived.Test.YtnkjlfadegjjoaaDoorWInvWords
import Derived.Test.YtnkjlfadegjjoaaDoorWGuard
import Derived.Test.YtnkjlfadegjjoaaDoorWNEv
import Derived.Test.YtnkjlfadegjjoaaDoorWMore
import Derived.Test.YtnkjlfadegjjoaaDoorWhP
namespace Go.Proofs.YtnkjlfadegjjoaaDoor.WhT
open Go.RowKit Go.Proofs.YtnkjlfadegjjoaaDoorW.PrintWords Go.Proofs.YtnkjlfadegjjoaaDoorW.PrintLast Go.Proofs.YtnkjlfadegjjoaaDoorW.PrintMore
attribute [local go_sem] max2_int min2_int max_two min_two max_three min_three max_four min_four   -- for this text's walks alone
set_option linter.unusedVariables false
set_option linter.unusedSimpArgs false



open Go.Maps
open _root_.Go.Proofs.YtnkjlfadegjjoaaDoor.WhA
open _root_.Go.Proofs.YtnkjlfadegjjoaaDoor.WhB
open _root_.Go.Proofs.YtnkjlfadegjjoaaDoor.WhC
open _root_.Go.Proofs.YtnkjlfadegjjoaaDoor.WhS
open _root_.Go.Proofs.YtnkjlfadegjjoaaDoor.WhP
/-! ### Fresh, turns, awakeWheel -/
theorem C_takeR {w : World} {A : Option Addr} {n m : Nat} {xs : List Trn} (h : Kd.C kTr w A n xs) (hm : m ≤ n) : Kd.C kTr w A (xs.take m).length (xs.take m) := by
  obtain ⟨h1, h2, h3⟩ := h
  have hl : (xs.take m).length = m := by rw [List.length_take]; omega
  refine ⟨rfl, by omega, fun hn => ?_⟩
  obtain ⟨ad, e, hc⟩ := h3 (by omega)
  refine ⟨ad, e, fun j p hj => hc j p ?_⟩
  rw [List.getElem?_take] at hj
  split at hj
  · exact hj
  · cases hj
def FreshP (ts : List Trn) : Prop := ∀ i, i < ts.length → (rdTr ts i).1 = 0 → ∀ z, ((rdTr ts i).2.1, z) ∉ (specR [] (ts.take i)).1
set_option maxHeartbeats 16000000 in
set_option maxRecDepth 100000 in
theorem fresh_calls (ts : List Trn) (A : Option Addr) (c : Nat) (w : World) (hC : Kd.C kTr w A ts.length ts) (hc : ts.length ≤ c) (hN : ts.length < 1000000) :
    Calls Tryd.prog 14 #[.slice A ts.length c] w fun en w' => ∃ b, en = .returned (.bool b) ∧ (b = true → FreshP ts) ∧ Below w.heap.size w w' := by
  have HA := Aside0.mk (And.intro hC (And.intro hc hN))
  clear hC hN
  go_enter Tryd.func14, Tryd.ntmps14
  go_wp2_with fail
  go_loopw [3] (fun v3 wr => ∃ (i : Nat), v3 = .int .i64 (i : Int) ∧ Aside0 (i ≤ ts.length) ∧ Aside0 ((∀ j, j < i → (rdTr ts j).1 = 0 → ∀ z, ((rdTr ts j).2.1, z) ∉ (specR [] (ts.take j)).1) ∧ Below w.heap.size w wr)) (fun v3 _ => Road.leftOf ts.length v3)
  case atStart => exact ⟨0, rfl, ⟨Nat.zero_le _⟩, ⟨fun j hj => absurd hj (Nat.not_lt_zero _), Below.refl _ _⟩⟩
  case round =>
    obtain ⟨i, rfl, HI, HS⟩ := hrel
    rcases Nat.lt_or_ge i ts.length with hi | hi
    · have HWI := Aside0.mk (Road.wrap_nat i (by have := HA.out.2.2; omega))
      have i1 := eq_true (show (i : Int) < (ts.length : Int) by omega)
      have i2 := eq_true hi
      have i3 := eq_true (show (i : Int) ≤ (c : Int) by omega)
      have i4 := eq_true (show i ≤ c by omega)
      obtain ⟨ad, e0, d0, d1, -, -, -⟩ := at_Tr HA.out.1 i hi
      subst e0
      have hl : (ts.take i).length = i := by rw [List.length_take]; omega
      have HSP := Aside0.mk (fun (wx : World) (hb : Below w.heap.size w wx) => spec_calls (ts.take i) (some ad) c wx (Kd.C_below (C_takeR HA.out.1 (by omega)) hb) (by omega) (by have := HA.out.2.2; omega))
      rw [hl] at HSP
      obtain ⟨⟨op, sq, exx, nw, odd⟩, ht⟩ : ∃ t, t = rdTr ts i := ⟨_, rfl⟩
      rw [← ht] at d0 d1
      have HD := Aside0.mk (And.intro d0 (And.intro d1 (And.intro ht hi)))
      have hlen := specR_len (ts.take i) []
      rw [hl] at hlen
      clear d0 d1 ht hi hl hc
      go_wp2_with fail
      refine (HSP.out wr HS.out.2).mono ?_
      rintro en w1 ⟨v, u, rfl, hR1, -, hb1⟩
      obtain ⟨A4, c4, hv⟩ := Kd.R_slice hR1
      subst hv
      obtain ⟨l, hl⟩ : ∃ l, l = (specR [] (ts.take i)).1 := ⟨_, rfl⟩
      rw [← hl] at hR1 hlen ⊢
      have hb01 : Below w.heap.size w w1 := HS.out.2.trans (hb1.mono HS.out.2.size)
      have d0 := cellB hb01 HD.out.1
      have d1 := cellB hb01 HD.out.2.1
      have H1 := Aside0.mk (And.intro hb01 (And.intro hl (And.intro (RT_reads hR1).2 (show l.length < 1000000 by have := HA.out.2.2; have := of_eq_true i2; simp only [List.length_nil] at hlen; omega))))
      clear hb01 hb1 hR1 hl hlen HSP
      by_cases o0 : op = 0
      · subst o0
        go_wp2_with fail
        refine (seat_calls l sq A4 c4 w1 H1.out.2.2.1.2 H1.out.2.2.1.1 (by have := H1.out.2.2.2; omega)).mono ?_
        rintro en w2 ⟨rfl, n2, rfl⟩
        obtain ⟨k, hk⟩ : ∃ k, k = seatF l sq 0 := ⟨_, rfl⟩
        rw [← hk]
        have hka := seatF_any l sq 0
        rw [← hk] at hka
        clear hk
        rcases hka with ⟨rfl, hno⟩ | ⟨kn, y, hk1, -, -⟩
        · have HNO := Aside0.mk hno
          clear hno
          go_wp2_with fail
          go_roundw
          case rel =>
            refine ⟨i + 1, congrArg (Value.int .i64) HWI.out, ⟨of_eq_true i2⟩, ⟨fun j hj hj0 z => ?_, pw_below_drewN H1.out.1 n2⟩⟩
            rcases Nat.lt_or_ge j i with q | q
            · exact HS.out.1 j q hj0 z
            · have : j = i := by omega
              subst this
              rw [← HD.out.2.2.1, ← H1.out.2.1]
              exact HNO.out z
          case measure => rw [HWI.out]; exact Road.leftOf_lt (of_eq_true i2)
        · have hk : k = (kn : Int) := by rw [hk1, Nat.zero_add]
          subst hk
          have q1 := eq_true (show 0 ≤ (kn : Int) by omega)
          have q2 : decide (0 ≤ (kn : Int)) = true := decide_eq_true (show 0 ≤ (kn : Int) by omega)
          clear hk1
          go_wp2_with fail
          go_ret
          exact ⟨false, rfl, fun h => absurd h (by simp), pw_below_drewN H1.out.1 n2⟩
      · have p1 := eq_false o0
        have p2 : (op == 0) = false := by simp [o0]
        have HO := Aside0.mk o0
        clear o0
        go_wp2_with fail
        go_roundw
        case rel =>
          refine ⟨i + 1, congrArg (Value.int .i64) HWI.out, ⟨of_eq_true i2⟩, ⟨fun j hj hj0 z => ?_, H1.out.1⟩⟩
          rcases Nat.lt_or_ge j i with q | q
          · exact HS.out.1 j q hj0 z
          · have : j = i := by omega
            subst this
            rw [← HD.out.2.2.1] at hj0
            exact absurd hj0 HO.out
        case measure => rw [HWI.out]; exact Road.leftOf_lt (of_eq_true i2)
    · have i1 := eq_false (show ¬ (i : Int) < (ts.length : Int) by omega)
      have i2 := eq_false (show ¬ i < ts.length by omega)
      have HI2 := Aside0.mk hi
      clear hi
      go_wp2_with fail
      go_ret
      exact ⟨true, rfl, fun _ j hj => HS.out.1 j (by have := HI2.out; omega), HS.out.2⟩
def RangeP (t : Trn) : Prop := (0 ≤ t.1 ∧ t.1 ≤ 3) ∧ (0 ≤ t.2.2.1 ∧ t.2.2.1 ≤ 36028797018963968) ∧ 0 ≤ t.2.2.2.1 ∧ t.2.2.2.1 ≤ 36028797018963968
def ThereP (ts : List Trn) (i : Nat) : Prop := (rdTr ts i).1 = 1 ∨ (rdTr ts i).1 = 2 → ∀ z, ((rdTr ts i).2.1, z) ∈ (specR [] (ts.take i)).1 → z = (rdTr ts i).2.2.1
def BoolP (P : Prop) (en : Ending) : Prop := ∃ b, en = .returned (.bool b) ∧ (b = true → P)
structure TurnsP (ts : List Trn) : Prop where
  len : ts.length ≤ 40
  rng : ∀ i, i < ts.length → RangeP (rdTr ts i)
  fresh : FreshP ts
  there : ∀ i, i < ts.length → ThereP ts i
set_option maxHeartbeats 40000000 in
set_option maxRecDepth 100000 in
theorem turns_calls (ts : List Trn) (A : Option Addr) (c : Nat) (w : World) (hC : Kd.C kTr w A ts.length ts) (hc : ts.length ≤ c) :
    Calls Tryd.prog 6 #[.slice A ts.length c] w fun en w' => BoolP (TurnsP ts) en ∧ Below w.heap.size w w' := by
  have HA := Aside0.mk (And.intro hC hc)
  clear hC
  by_cases h40 : ts.length ≤ 40
  · have n1 := eq_false (show ¬ 40 < (ts.length : Int) by omega)
    have n2 := eq_false (show ¬ 40 < ts.length by omega)
    have n3 : decide (40 < (ts.length : Int)) = false := decide_eq_false (show ¬ 40 < (ts.length : Int) by omega)
    have H40 := Aside0.mk h40
    have HFR := Aside0.mk (fun (wx : World) (hb : Below w.heap.size w wx) => fresh_calls ts A c wx (Kd.C_below HA.out.1 hb) hc (by omega))
    clear h40 hc
    go_enter Tryd.func6, Tryd.ntmps6
    go_wp2_with fail
    go_loopw [3] (fun v3 wr => ∃ (i : Nat), v3 = .int .i64 (i : Int) ∧ Aside0 (i ≤ ts.length) ∧ Aside0 ((∀ j, j < i → RangeP (rdTr ts j)) ∧ Below w.heap.size w wr)) (fun v3 _ => Road.leftOf ts.length v3)
    case atStart => exact ⟨0, rfl, ⟨Nat.zero_le _⟩, ⟨fun j hj => absurd hj (Nat.not_lt_zero _), Below.refl _ _⟩⟩
    case round =>
      obtain ⟨i, rfl, HI, HS⟩ := hrel
      rcases Nat.lt_or_ge i ts.length with hi | hi
      · have HWI := Aside0.mk (Road.wrap_nat i (by have := H40.out; omega))
        have i1 := eq_true (show (i : Int) < (ts.length : Int) by omega)
        have i2 := eq_true hi
        obtain ⟨ad, e0, d0, d1, d2, d3, -⟩ := at_Tr (Kd.C_below HA.out.1 HS.out.2) i hi
        subst e0
        obtain ⟨⟨op, sq, exx, nw, odd⟩, ht⟩ : ∃ t, t = rdTr ts i := ⟨_, rfl⟩
        rw [← ht] at d0 d1 d2 d3
        have HT := Aside0.mk ht
        clear ht hi
        by_cases c0 : op < 0
        · have a0 := eq_true c0
          have b0 : decide (op < 0) = true := decide_eq_true c0
          clear c0
          go_wp2_with fail
          go_ret
          exact ⟨⟨false, rfl, fun h => absurd h (by simp)⟩, HS.out.2⟩
        have a0 := eq_false c0
        have b0 : decide (op < 0) = false := decide_eq_false c0
        have X0 := Aside0.mk c0
        clear c0
        by_cases c1 : 3 < op
        · have a1 := eq_true c1
          have b1 : decide (3 < op) = true := decide_eq_true c1
          clear c1
          go_wp2_with fail
          go_ret
          exact ⟨⟨false, rfl, fun h => absurd h (by simp)⟩, HS.out.2⟩
        have a1 := eq_false c1
        have b1 : decide (3 < op) = false := decide_eq_false c1
        have X1 := Aside0.mk c1
        clear c1
        by_cases c2 : exx < 0
        · have a2 := eq_true c2
          have b2 : decide (exx < 0) = true := decide_eq_true c2
          clear c2
          go_wp2_with fail
          go_ret
          exact ⟨⟨false, rfl, fun h => absurd h (by simp)⟩, HS.out.2⟩
        have a2 := eq_false c2
        have b2 : decide (exx < 0) = false := decide_eq_false c2
        have X2 := Aside0.mk c2
        clear c2
        by_cases c3 : 36028797018963968 < exx
        · have a3 := eq_true c3
          have b3 : decide (36028797018963968 < exx) = true := decide_eq_true c3
          clear c3
          go_wp2_with fail
          go_ret
          exact ⟨⟨false, rfl, fun h => absurd h (by simp)⟩, HS.out.2⟩
        have a3 := eq_false c3
        have b3 : decide (36028797018963968 < exx) = false := decide_eq_false c3
        have X3 := Aside0.mk c3
        clear c3
        by_cases c4 : nw < 0
        · have a4 := eq_true c4
          have b4 : decide (nw < 0) = true := decide_eq_true c4
          clear c4
          go_wp2_with fail
          go_ret
          exact ⟨⟨false, rfl, fun h => absurd h (by simp)⟩, HS.out.2⟩
        have a4 := eq_false c4
        have b4 : decide (nw < 0) = false := decide_eq_false c4
        have X4 := Aside0.mk c4
        clear c4
        by_cases c5 : 36028797018963968 < nw
        · have a5 := eq_true c5
          have b5 : decide (36028797018963968 < nw) = true := decide_eq_true c5
          clear c5
          go_wp2_with fail
          go_ret
          exact ⟨⟨false, rfl, fun h => absurd h (by simp)⟩, HS.out.2⟩
        have a5 := eq_false c5
        have b5 : decide (36028797018963968 < nw) = false := decide_eq_false c5
        have X5 := Aside0.mk c5
        clear c5
        go_wp2_with fail
        go_roundw
        case rel =>
          refine ⟨i + 1, congrArg (Value.int .i64) HWI.out, ⟨of_eq_true i2⟩, ⟨fun j hj => ?_, HS.out.2⟩⟩
          rcases Nat.lt_or_ge j i with q | q
          · exact HS.out.1 j q
          · have : j = i := by omega
            subst this
            rw [← HT.out]
            obtain ⟨x0, x1, x2, x3, x4, x5⟩ : (¬ op < 0) ∧ (¬ 3 < op) ∧ (¬ exx < 0) ∧ (¬ 36028797018963968 < exx) ∧ (¬ nw < 0) ∧ (¬ 36028797018963968 < nw) := ⟨X0.out, X1.out, X2.out, X3.out, X4.out, X5.out⟩
            refine ⟨⟨?_, ?_⟩, ⟨?_, ?_⟩, ?_, ?_⟩ <;> simp only <;> omega
        case measure => rw [HWI.out]; exact Road.leftOf_lt (of_eq_true i2)
      · have i1 := eq_false (show ¬ (i : Int) < (ts.length : Int) by omega)
        have i2 := eq_false (show ¬ i < ts.length by omega)
        have HRNG := Aside0.mk (show ∀ j, j < ts.length → RangeP (rdTr ts j) from fun j hj => HS.out.1 j (by omega))
        clear hi
        go_wp2_with fail
        refine (HFR.out wr HS.out.2).mono ?_
        rintro en w1 ⟨fb, rfl, hfp, hb1'⟩
        have hb1 : Below w.heap.size w w1 := HS.out.2.trans (hb1'.mono HS.out.2.size)
        clear hb1'
        cases fb with
        | false =>
          have HB1 := Aside0.mk hb1
          clear hfp hb1
          go_wp2_with fail
          go_ret
          exact ⟨⟨false, rfl, fun h => absurd h (by simp)⟩, HB1.out⟩
        | true =>
          have HF := Aside0.mk (And.intro (hfp rfl) hb1)
          clear hfp hb1
          go_wp2_with fail
          go_loopw [4] (fun v4 wr => ∃ (i : Nat), v4 = .int .i64 (i : Int) ∧ Aside0 (i ≤ ts.length) ∧ Aside0 ((∀ j, j < i → ThereP ts j) ∧ Below w.heap.size w wr)) (fun v4 _ => Road.leftOf ts.length v4)
          case atStart => exact ⟨0, rfl, ⟨Nat.zero_le _⟩, ⟨fun j hj => absurd hj (Nat.not_lt_zero _), HF.out.2⟩⟩
          case round =>
            obtain ⟨i, rfl, HI, HS⟩ := hrel
            rcases Nat.lt_or_ge i ts.length with hi | hi
            · have HWI := Aside0.mk (Road.wrap_nat i (by have := H40.out; omega))
              have i1 := eq_true (show (i : Int) < (ts.length : Int) by omega)
              have i2 := eq_true hi
              have i3 := eq_true (show (i : Int) ≤ (c : Int) by have := HA.out.2; omega)
              have i4 := eq_true (show i ≤ c by have := HA.out.2; omega)
              obtain ⟨ad, e0, d0, d1, d2, -, -⟩ := at_Tr HA.out.1 i hi
              subst e0
              have hl : (ts.take i).length = i := by rw [List.length_take]; omega
              have HSP := Aside0.mk (fun (wx : World) (hb : Below w.heap.size w wx) => spec_calls (ts.take i) (some ad) c wx (Kd.C_below (C_takeR HA.out.1 (by omega)) hb) (by have := HA.out.2; omega) (by have := H40.out; omega))
              rw [hl] at HSP
              obtain ⟨⟨op, sq, exx, nw, odd⟩, ht⟩ : ∃ t, t = rdTr ts i := ⟨_, rfl⟩
              rw [← ht] at d0 d1 d2
              have HD := Aside0.mk (And.intro d0 (And.intro d1 (And.intro d2 (And.intro ht hi))))
              have hlen := specR_len (ts.take i) []
              rw [hl] at hlen
              clear d0 d1 d2 ht hi hl
              go_wp2_with fail
              refine (HSP.out wr HS.out.2).mono ?_
              rintro en w1 ⟨v, u, rfl, hR1, -, hb1⟩
              obtain ⟨A4, c4, hv⟩ := Kd.R_slice hR1
              subst hv
              obtain ⟨l, hl⟩ : ∃ l, l = (specR [] (ts.take i)).1 := ⟨_, rfl⟩
              rw [← hl] at hR1 hlen ⊢
              have hb01 : Below w.heap.size w w1 := HS.out.2.trans (hb1.mono HS.out.2.size)
              have H1 := Aside0.mk (And.intro hb01 (And.intro hl (And.intro (RT_reads hR1).2 (And.intro (show l.length < 1000000 by have := H40.out; have := of_eq_true i2; simp only [List.length_nil] at hlen; omega) hR1))))
              clear hb01 hb1 hR1 hl hlen HSP
              go_wp2_with fail
              go_loopw [7] (fun v7 wx => ∃ (k : Nat), v7 = .int .i64 (k : Int) ∧ Aside0 (k ≤ l.length) ∧ Aside0 (Below w.heap.size w wx ∧ Below w1.heap.size w1 wx ∧ ∀ j, j < k → (l.getD j dT).1 = sq → (l.getD j dT).2 = exx)) (fun v7 _ => Road.leftOf l.length v7)
              case atStart => exact ⟨0, rfl, ⟨Nat.zero_le _⟩, ⟨H1.out.1, Below.refl _ _, fun j hj => absurd hj (Nat.not_lt_zero _)⟩⟩
              case round =>
                obtain ⟨k, rfl, HK, HX⟩ := hrel
                have d0 := cellB HX.out.1 HD.out.1
                have d1 := cellB HX.out.1 HD.out.2.1
                have d2 := cellB HX.out.1 HD.out.2.2.1
                have fin : ∀ (q : l.length ≤ k ∨ ¬ (op = 1 ∨ op = 2)), ∀ j, j < i + 1 → ThereP ts j := fun q j hj => by
                  rcases Nat.lt_or_ge j i with r | r
                  · exact HS.out.1 j r
                  · have e : j = i := by omega
                    subst e
                    intro ho z hz
                    rw [← HD.out.2.2.2.1] at ho hz ⊢
                    rw [← H1.out.2.1] at hz
                    rcases q with q | q
                    · obtain ⟨m, hm, hme⟩ := List.mem_iff_getElem.1 hz
                      have e2 : l.getD m dT = (sq, z) := by rw [List.getD_eq_getElem?_getD, List.getElem?_eq_getElem hm, hme]; rfl
                      have := HX.out.2.2 m (by omega) (by rw [e2])
                      rw [e2] at this
                      exact this
                    · exact absurd ho q
                have FIN := Aside0.mk fin
                clear fin
                rcases Nat.lt_or_ge k l.length with hk | hk
                · have j1 := eq_true (show (k : Int) < (l.length : Int) by omega)
                  have j2 := eq_true hk
                  have HWK := Aside0.mk (Road.wrap_nat k (by have := H1.out.2.2.2.1; omega))
                  obtain ⟨a4, e4, ka1, ka2⟩ := CT_at (Kd.C_below H1.out.2.2.1.2 HX.out.2.1) k hk
                  subst e4
                  obtain ⟨x, hx⟩ : ∃ x, x = (l.getD k dT).1 := ⟨_, rfl⟩
                  obtain ⟨y, hy⟩ : ∃ y, y = (l.getD k dT).2 := ⟨_, rfl⟩
                  rw [← hx] at ka1
                  rw [← hy] at ka2
                  have HXY := Aside0.mk (And.intro hx (And.intro hy hk))
                  clear hx hy hk
                  by_cases ho : op = 1 ∨ op = 2
                  · have HOO := Aside0.mk ho
                    have m1 : (op == 1) = true ∨ ((op == 1) = false ∧ (op == 2) = true) := by
                      rcases ho with rfl | rfl
                      · exact .inl rfl
                      · exact .inr ⟨rfl, rfl⟩
                    clear ho
                    by_cases hxs : x = sq
                    · subst hxs
                      by_cases hye : y = exx
                      · subst hye
                        rcases HOO.out with rfl | rfl
                        · go_wp2_with fail
                          go_quiet (fail)
                          go_wp2_with fail
                          go_roundw
                          case rel => exact ⟨k + 1, congrArg (Value.int .i64) HWK.out, ⟨HXY.out.2.2⟩, ⟨pw_below_drewN HX.out.1 _, pw_below_drewN HX.out.2.1 _, fun j hj hjs => by
                            rcases Nat.lt_or_ge j k with r | r
                            · exact HX.out.2.2 j r hjs
                            · have e : j = k := by omega
                              subst e
                              exact HXY.out.2.1.symm⟩⟩
                          case measure => rw [HWK.out]; exact Road.leftOf_lt (of_eq_true j2)
                        · go_wp2_with fail
                          go_quiet (fail)
                          go_wp2_with fail
                          go_roundw
                          case rel => exact ⟨k + 1, congrArg (Value.int .i64) HWK.out, ⟨HXY.out.2.2⟩, ⟨pw_below_drewN HX.out.1 _, pw_below_drewN HX.out.2.1 _, fun j hj hjs => by
                            rcases Nat.lt_or_ge j k with r | r
                            · exact HX.out.2.2 j r hjs
                            · have e : j = k := by omega
                              subst e
                              exact HXY.out.2.1.symm⟩⟩
                          case measure => rw [HWK.out]; exact Road.leftOf_lt (of_eq_true j2)
                      · have p1 := eq_false hye
                        have p2 : (y == exx) = false := by simp [hye]
                        have p3 : (y != exx) = true := by simp [hye]
                        clear hye
                        rcases HOO.out with rfl | rfl
                        · go_wp2_with fail
                          go_quiet (fail)
                          go_wp2_with fail
                          go_ret
                          exact ⟨⟨false, rfl, fun h => absurd h (by simp)⟩, pw_below_drewN HX.out.1 _⟩
                        · go_wp2_with fail
                          go_quiet (fail)
                          go_wp2_with fail
                          go_ret
                          exact ⟨⟨false, rfl, fun h => absurd h (by simp)⟩, pw_below_drewN HX.out.1 _⟩
                    · have p1 := eq_false hxs
                      have p2 : (x == sq) = false := by simp [hxs]
                      have HXS := Aside0.mk hxs
                      clear hxs
                      rcases HOO.out with rfl | rfl
                      · go_wp2_with fail
                        go_quiet (fail)
                        go_wp2_with fail
                        go_roundw
                        case rel => exact ⟨k + 1, congrArg (Value.int .i64) HWK.out, ⟨HXY.out.2.2⟩, ⟨pw_below_drewN HX.out.1 _, pw_below_drewN HX.out.2.1 _, fun j hj hjs => by
                          rcases Nat.lt_or_ge j k with r | r
                          · exact HX.out.2.2 j r hjs
                          · have e : j = k := by omega
                            subst e
                            exact absurd (HXY.out.1.trans hjs) HXS.out⟩⟩
                        case measure => rw [HWK.out]; exact Road.leftOf_lt (of_eq_true j2)
                      · go_wp2_with fail
                        go_quiet (fail)
                        go_wp2_with fail
                        go_roundw
                        case rel => exact ⟨k + 1, congrArg (Value.int .i64) HWK.out, ⟨HXY.out.2.2⟩, ⟨pw_below_drewN HX.out.1 _, pw_below_drewN HX.out.2.1 _, fun j hj hjs => by
                          rcases Nat.lt_or_ge j k with r | r
                          · exact HX.out.2.2 j r hjs
                          · have e : j = k := by omega
                            subst e
                            exact absurd (HXY.out.1.trans hjs) HXS.out⟩⟩
                        case measure => rw [HWK.out]; exact Road.leftOf_lt (of_eq_true j2)
                  · have p1 := eq_false (show ¬ op = 1 from fun e => ho (.inl e))
                    have p2 : (op == 1) = false := by simp [p1]
                    have p3 := eq_false (show ¬ op = 2 from fun e => ho (.inr e))
                    have p4 : (op == 2) = false := by simp [p3]
                    have HHO := Aside0.mk ho
                    clear ho
                    go_wp2_with fail
                    go_roundw
                    case rel => exact ⟨i + 1, congrArg (Value.int .i64) HWI.out, ⟨of_eq_true i2⟩, ⟨FIN.out (.inr HHO.out), HX.out.1⟩⟩
                    case measure => rw [HWI.out]; exact Road.leftOf_lt (of_eq_true i2)
                · have j1 := eq_false (show ¬ (k : Int) < (l.length : Int) by omega)
                  have j2 := eq_false (show ¬ k < l.length by omega)
                  have HKK := Aside0.mk hk
                  clear hk
                  go_wp2_with fail
                  go_roundw
                  case rel => exact ⟨i + 1, congrArg (Value.int .i64) HWI.out, ⟨of_eq_true i2⟩, ⟨FIN.out (.inl HKK.out), HX.out.1⟩⟩
                  case measure => rw [HWI.out]; exact Road.leftOf_lt (of_eq_true i2)
            · have i1 := eq_false (show ¬ (i : Int) < (ts.length : Int) by omega)
              have i2 := eq_false (show ¬ i < ts.length by omega)
              have HI2 := Aside0.mk hi
              clear hi
              go_wp2_with fail
              go_ret
              exact ⟨⟨true, rfl, fun _ => ⟨H40.out, HRNG.out, HF.out.1, fun j hj => HS.out.1 j (by have := HI2.out; omega)⟩⟩, HS.out.2⟩
  · have n1 := eq_true (show 40 < (ts.length : Int) by omega)
    have n2 := eq_true (show 40 < ts.length by omega)
    have n3 : decide (40 < (ts.length : Int)) = true := decide_eq_true (show 40 < (ts.length : Int) by omega)
    clear h40 hc
    go_enter Tryd.func6, Tryd.ntmps6
    go_wp2_with fail
    go_ret
    exact ⟨⟨false, rfl, fun h => absurd h (by simp)⟩, Below.refl _ _⟩
/-! ### the specification's turns and the wheel's -/
def GoodP : List Tk → List Trn → Prop
  | _, [] => True
  | l, t :: ts => GoodT l t ∧ GoodP (specW l t).1 ts
theorem goodT_perm {l l' : List Tk} {t : Trn} (h : GoodT l t) (hp : l.Perm l') : GoodT l' t :=
  ⟨h.op, h.sq, h.ex, h.nw, fun q z hz => h.fresh q z (hp.mem_iff.2 hz), fun q => (h.there q).imp (fun r => hp.mem_iff.1 r) (fun r z hz => r z (hp.mem_iff.2 hz))⟩
theorem ansEq_refl (a : Int × List Tk) : AnsEq a a := ⟨rfl, List.Perm.refl _⟩
theorem ansEq_trans {a b c : Int × List Tk} (h : AnsEq a b) (k : AnsEq b c) : AnsEq a c := ⟨h.1.trans k.1, h.2.trans k.2⟩
theorem ansAll_trans {a b c : List (Int × List Tk)} (h : AnsAll a b) : AnsAll b c → AnsAll a c := by
  induction h generalizing c with
  | nil => exact id
  | cons e _ ih =>
    intro k
    cases k with
    | cons e' k' => exact .cons (ansEq_trans e e') (ih k')
/-- Each number once, and a number. -/
structure KeysOk (l : List Tk) : Prop where
  nd : (l.map (·.1)).Nodup
  all : ∀ y ∈ l, wfU y.1
theorem stay_eq {ts : Int} {odd : Bool} {l : List Tk} (h : ∀ y ∈ l, wfU y.1) : stayS ts odd l = stayL ts odd l := by
  unfold stayS stayL
  refine List.filter_congr (fun y hy => ?_)
  have h0 := (h y hy).1
  have e : y.1.tmod 2 = y.1 % 2 := Int.tmod_eq_emod_of_nonneg h0
  rw [e]
  unfold goneB goesB
  have h2 : y.1 % 2 = 0 ∨ y.1 % 2 = 1 := by omega
  have h3 : decide (ts < y.2) = !decide (y.2 ≤ ts) := by
    by_cases c : y.2 ≤ ts
    · rw [decide_eq_true c, decide_eq_false (by omega)]; rfl
    · rw [decide_eq_false c, decide_eq_true (by omega)]; rfl
  rw [h3]
  rcases h2 with h2 | h2 <;> rw [h2] <;> cases decide (y.2 ≤ ts) <;> cases odd <;> rfl
theorem step_rel {l l' : List Tk} {t : Trn} (hG : GoodT l t) (hK : KeysOk l) (hp : l.Perm l') : (specW l t).1.Perm (stepW l' t).1 ∧ AnsEq (stepW l' t).2 (specW l t).2 ∧ KeysOk (specW l t).1 ∧ ((specW l t).2.2.map (·.1)).Nodup ∧ (specW l t).2.2.length ≤ l.length := by
  obtain ⟨op, sq, exx, nw, odd⟩ := t
  have hop := hG.op
  have hsub : ∀ y, KeysOk (l.erase y) := fun y => ⟨hK.nd.sublist (List.erase_sublist.map _), fun z hz => hK.all z (List.erase_subset hz)⟩
  have h4 : op = 0 ∨ op = 1 ∨ op = 2 ∨ op = 3 := by simp only at hop; omega
  have hthere : (sq, exx) ∈ l → ∃ k, seatF l sq 0 = ((k : Nat) : Int) ∧ l.eraseIdx k = l.erase (sq, exx) ∧ thereB l sq exx = true := fun hm => by
    obtain ⟨k, h1, h2, h3⟩ := seatF_some l sq exx 0 hK.nd hm
    rw [Nat.zero_add] at h1
    refine ⟨k, h1, h3, ?_⟩
    unfold thereB
    rw [h1, Int.toNat_natCast, decide_eq_true (by omega), List.getD_eq_getElem?_getD, h2]
    simp
  have hnot : (∀ z, (sq, z) ∉ l) → seatF l sq 0 = -1 ∧ thereB l sq exx = false := fun hn => by
    have h1 := seatF_none l sq 0 hn
    refine ⟨h1, ?_⟩
    unfold thereB
    rw [h1]
    rfl
  rcases h4 with rfl | rfl | rfl | rfl
  · have hf := hG.fresh rfl
    obtain ⟨h1, -⟩ := hnot hf
    have e : specW l (0, sq, exx, nw, odd) = (putR l (sq, exx), (0, [])) := (if_pos rfl).trans (by rw [h1]; rfl)
    have e' : stepW l' (0, sq, exx, nw, odd) = ((sq, exx) :: l', (0, [])) := if_pos rfl
    rw [e, e']
    have hpp := putR_perm l (sq, exx)
    refine ⟨hpp.trans (hp.cons _), ansEq_refl _, ⟨(hpp.map _).nodup_iff.2 ?_, fun y hy => ?_⟩, List.nodup_nil, Nat.zero_le _⟩
    · rw [List.map_cons, List.nodup_cons]
      refine ⟨fun hm => ?_, hK.nd⟩
      obtain ⟨y, hy, e1⟩ := List.mem_map.1 hm
      exact hf y.2 (by rw [← (show y.1 = sq from e1)]; exact hy)
    · rcases List.mem_cons.1 (hpp.mem_iff.1 hy) with rfl | hy
      · exact hG.sq
      · exact hK.all y hy
  · have n1 : ¬ (1 : Int) = 0 := by decide
    rcases hG.there (.inl rfl) with hm | hm
    · obtain ⟨k, h1, h2, h3⟩ := hthere hm
      have e : specW l (1, sq, exx, nw, odd) = (l.erase (sq, exx), (0, [])) := (if_neg n1).trans ((if_pos rfl).trans ((if_pos h3).trans (by rw [h1, Int.toNat_natCast, h2])))
      have e' : stepW l' (1, sq, exx, nw, odd) = (l'.erase (sq, exx), (0, [])) := (if_neg n1).trans ((if_pos rfl).trans (if_pos (hp.mem_iff.1 hm)))
      rw [e, e']
      exact ⟨hp.erase _, ansEq_refl _, hsub _, List.nodup_nil, Nat.zero_le _⟩
    · obtain ⟨h1, h3⟩ := hnot hm
      have e : specW l (1, sq, exx, nw, odd) = (l, (1, [])) := (if_neg n1).trans ((if_pos rfl).trans (if_neg (by rw [h3]; simp)))
      have e' : stepW l' (1, sq, exx, nw, odd) = (l', (1, [])) := (if_neg n1).trans ((if_pos rfl).trans (if_neg (fun q => hm exx (hp.mem_iff.2 q))))
      rw [e, e']
      exact ⟨hp, ansEq_refl _, hK, List.nodup_nil, Nat.zero_le _⟩
  · have n1 : ¬ (2 : Int) = 0 := by decide
    have n2 : ¬ (2 : Int) = 1 := by decide
    rcases hG.there (.inr rfl) with hm | hm
    · obtain ⟨k, h1, h2, h3⟩ := hthere hm
      have e : specW l (2, sq, exx, nw, odd) = (putR (l.erase (sq, exx)) (sq, nw), (0, [])) := (if_neg n1).trans ((if_neg n2).trans ((if_pos rfl).trans ((if_pos h3).trans (by rw [h1, Int.toNat_natCast, h2]))))
      have e' : stepW l' (2, sq, exx, nw, odd) = ((sq, nw) :: l'.erase (sq, exx), (0, [])) := (if_neg n1).trans ((if_neg n2).trans ((if_pos rfl).trans (if_pos (hp.mem_iff.1 hm))))
      rw [e, e']
      have hpp := putR_perm (l.erase (sq, exx)) (sq, nw)
      refine ⟨hpp.trans ((hp.erase _).cons _), ansEq_refl _, ⟨(hpp.map _).nodup_iff.2 ?_, fun y hy => ?_⟩, List.nodup_nil, Nat.zero_le _⟩
      · rw [List.map_cons, List.nodup_cons]
        refine ⟨fun hmm => ?_, (hsub _).nd⟩
        obtain ⟨y, hy, e1⟩ := List.mem_map.1 hmm
        obtain ⟨hy1, hy2⟩ := (mem_erase_tk hK.nd).1 hy
        obtain ⟨a, b⟩ := y
        have ea : a = sq := e1
        subst ea
        exact hy1 (by rw [key_one hK.nd hy2 hm])
      · rcases List.mem_cons.1 (hpp.mem_iff.1 hy) with rfl | hy
        · exact hG.sq
        · exact (hsub _).all y hy
    · obtain ⟨h1, h3⟩ := hnot hm
      have e : specW l (2, sq, exx, nw, odd) = (l, (1, [])) := (if_neg n1).trans ((if_neg n2).trans ((if_pos rfl).trans (if_neg (by rw [h3]; simp))))
      have e' : stepW l' (2, sq, exx, nw, odd) = (l', (1, [])) := (if_neg n1).trans ((if_neg n2).trans ((if_pos rfl).trans (if_neg (fun q => hm exx (hp.mem_iff.2 q)))))
      rw [e, e']
      exact ⟨hp, ansEq_refl _, hK, List.nodup_nil, Nat.zero_le _⟩
  · have n1 : ¬ (3 : Int) = 0 := by decide
    have n2 : ¬ (3 : Int) = 1 := by decide
    have n3 : ¬ (3 : Int) = 2 := by decide
    have e : specW l (3, sq, exx, nw, odd) = (stayS exx odd l, (0, dueL exx l)) := (if_neg n1).trans ((if_neg n2).trans ((if_neg n3).trans (if_pos rfl)))
    have e' : stepW l' (3, sq, exx, nw, odd) = (stayL exx odd l', (0, dueL exx l')) := (if_neg n1).trans ((if_neg n2).trans (if_neg n3))
    rw [e, e', stay_eq hK.all]
    exact ⟨hp.filter _, ⟨rfl, (hp.filter _).symm⟩, ⟨hK.nd.sublist (List.filter_sublist.map _), fun y hy => hK.all y (mem_stayL.1 hy).1⟩, hK.nd.sublist (List.filter_sublist.map _), List.length_filter_le _ _⟩
theorem run_rel : ∀ (ts : List Trn) (l l' : List Tk), GoodP l ts → KeysOk l → l.Perm l' → (specR l ts).1.Perm (runW l' ts).1 ∧ AnsAll (runW l' ts).2 (specR l ts).2 ∧ GoodR l' ts ∧ KeysOk (specR l ts).1 ∧ ∀ i, i < (specR l ts).2.length → (((specR l ts).2.getD i dA).2.map (·.1)).Nodup ∧ ((specR l ts).2.getD i dA).2.length ≤ l.length + ts.length
  | [], l, l', _, hK, hp => ⟨hp, .nil, trivial, hK, fun i hi => absurd hi (Nat.not_lt_zero _)⟩
  | t :: ts, l, l', hG, hK, hp => by
    obtain ⟨h1, h2, h3, h4, h5⟩ := step_rel hG.1 hK hp
    obtain ⟨k1, k2, k3, k4, k5⟩ := run_rel ts (specW l t).1 (stepW l' t).1 hG.2 h3 h1
    refine ⟨k1, .cons h2 k2, ⟨goodT_perm hG.1 hp, k3⟩, k4, fun i hi => ?_⟩
    cases i with
    | zero => exact ⟨h4, by show (specW l t).2.2.length ≤ _; omega⟩
    | succ i =>
      have := k5 i (by
        have e : (specR l (t :: ts)).2 = (specW l t).2 :: (specR (specW l t).1 ts).2 := rfl
        rw [e, List.length_cons] at hi
        omega)
      have hl := specW_len l t
      refine ⟨this.1, ?_⟩
      have h2' : ((specR l (t :: ts)).2.getD (i + 1) dA) = ((specR (specW l t).1 ts).2.getD i dA) := rfl
      rw [h2', List.length_cons]
      have := this.2
      omega
theorem GoodP_of : ∀ (ts : List Trn) (l : List Tk), (∀ i, i < ts.length → GoodT (specR l (ts.take i)).1 (rdTr ts i)) → GoodP l ts
  | [], _, _ => trivial
  | t :: ts, l, h => ⟨h 0 (by rw [List.length_cons]; omega), GoodP_of ts (specW l t).1 (fun i hi => h (i + 1) (by rw [List.length_cons]; omega))⟩
theorem turnsP_good {ts : List Trn} (h : TurnsP ts) (hw : ∀ i, i < ts.length → wfU (rdTr ts i).2.1) : GoodP [] ts :=
  GoodP_of ts [] (fun i hi => by
    obtain ⟨r1, r2, r3, r4⟩ := h.rng i hi
    refine ⟨r1, hw i hi, ⟨r2.1, by omega⟩, ⟨r3, by omega⟩, fun q z => h.fresh i hi q z, fun q => ?_⟩
    by_cases c : ∃ z, ((rdTr ts i).2.1, z) ∈ (specR [] (ts.take i)).1
    · obtain ⟨z, hz⟩ := c
      have e := h.there i hi q z hz
      rw [e] at hz
      exact .inl hz
    · exact .inr (fun z hz => c ⟨z, hz⟩))
/-! ### awakeWheel, the law -/
theorem kTr_mkM (w : World) (base : Nat) (ok : Nat → Prop) (a b c d : Int) (e : Bool) : kTr.M w base ok (a, b, c, d, e) [.int .i64 a, .int .u64 b, .int .i64 c, .int .i64 d, .bool e] := ⟨[.int .i64 a], [.int .u64 b, .int .i64 c, .int .i64 d, .bool e], rfl, rfl, ⟨[.int .u64 b], [.int .i64 c, .int .i64 d, .bool e], rfl, rfl, ⟨[.int .i64 c], [.int .i64 d, .bool e], rfl, rfl, ⟨[.int .i64 d], [.bool e], rfl, rfl, rfl⟩⟩⟩⟩
@[reducible] def tA : Trn := (0, 7, 1099511627776, 0, false)
theorem goodA : GoodR [] [tA] := ⟨⟨by decide, by unfold wfU; decide, by decide, by decide, fun _ z h => by simp at h, fun _ => .inr (fun z h => by simp at h)⟩, trivial⟩
set_option maxHeartbeats 16000000 in
set_option maxRecDepth 100000 in
theorem awake_calls (w : World) (hE : WLaid w) : Calls Tryd.prog 7 #[] w fun en w' => en = .returned (.bool true) ∧ Below w.heap.size w w' := by
  have HE := Aside0.mk hE
  clear hE
  go_enter Tryd.func7, Tryd.ntmps7
  go_wp2_with (first | ((with_reducible refine gate_dst (N := 5) rfl ?_); refine Kd.R_lit kTr w.heap.size 34 ?hg (N := 5) ?hd (xs := [tA]) (inner := [.int .i64 0, .int .u64 7, .int .i64 1099511627776, .int .i64 0, .bool false]) (ok := fun _ => True) (okp := fun _ => True) ?hr ?hp (fun _ hk => hk) trivial (Below.refl _ _) (Nat.le_refl _) (by simp) ?_; (case hd => rfl); (case hg => rfl); (case hr => first | (go_simp; done) | (go_simp; rfl)); (case hp => exact (Reps.c5 (kTr_mkM _ _ _ _ _ _ _ _) (Reps.none _ _))); intro v5 w3 ho4 hb4 hg_ hnew_; obtain ⟨A5, c5, hv5⟩ := Kd.R_slice ho4; subst hv5; have H4 := Aside0.mk (And.intro (Kd.R_reads' ho4) hb4); clear hg_ hnew_ ho4 hb4) | fail)
  refine (run_calls [tA] A5 c5 w3 H4.out.1.2.2 H4.out.1.2.1 (WLaid.below HE.out H4.out.2) goodA (by decide)).mono ?_
  rintro en w4 ⟨v, rs, rfl, hAn, hR, hb, -⟩
  have hlen : rs.length = 1 := hAn.len
  obtain ⟨A6, c6, hv6⟩ := Kd.R_slice hR
  rw [hlen] at hv6
  subst hv6
  have HB := Aside0.mk (H4.out.2.trans (hb.mono H4.out.2.size))
  clear hAn hR hb hlen
  go_wp2_with fail
  go_ret
  exact ⟨rfl, HB.out⟩
theorem CA_fromR {w : World} {base n cap : Nat} {A : Option Addr} {ok : Nat → Prop} {rs : List (Int × List Tk)} (h : Kd.R kA 37 w base ok (.slice A n cap) rs) : rs.length = n ∧ n ≤ cap ∧ Kd.C kA w A n rs := by
  obtain ⟨h1, h2, h3⟩ := Kd.R_reads' h
  exact ⟨h1.symm, h2, by rw [h1]; exact h3⟩
set_option maxHeartbeats 16000000 in
set_option maxRecDepth 100000 in
theorem law_calls (ts : List Trn) (A : Option Addr) (c : Nat) (w : World) (hC : Kd.C kTr w A ts.length ts) (hc : ts.length ≤ c) (hE : WLaid w) (hw : ∀ i, i < ts.length → wfU (rdTr ts i).2.1) :
    Calls Tryd.prog 3 #[.slice A ts.length c] w fun en w' => en = .returned (.bool true) ∧ Below w.heap.size w w' := by
  have HA := Aside0.mk (And.intro hC (And.intro hc (And.intro hE hw)))
  by_cases hm : 2147483647 < ts.length
  · have n1 := eq_true (show 2147483647 < (ts.length : Int) by omega)
    have n2 := eq_true hm
    have n3 : decide (2147483647 < (ts.length : Int)) = true := decide_eq_true (show 2147483647 < (ts.length : Int) by omega)
    clear hm hC hc hE hw
    go_enter Tryd.func3, Tryd.ntmps3
    go_wp2_with fail
    go_ret
    exact ⟨rfl, Below.refl _ _⟩
  · have n1 := eq_false (show ¬ 2147483647 < (ts.length : Int) by omega)
    have n2 := eq_false hm
    have n3 : decide (2147483647 < (ts.length : Int)) = false := decide_eq_false (show ¬ 2147483647 < (ts.length : Int) by omega)
    have HT := Aside0.mk (turns_calls ts A c w hC hc)
    clear hm hC hc hE hw
    go_enter Tryd.func3, Tryd.ntmps3
    go_wp2_with fail
    refine HT.out.mono ?_
    rintro en w1 ⟨⟨b, rfl, hb⟩, hbl⟩
    have HB1 := Aside0.mk hbl
    clear hbl
    cases b with
    | false =>
      clear hb
      go_wp2_with fail
      refine (awake_calls w1 (HA.out.2.2.1.below HB1.out)).mono ?_
      rintro en w2 ⟨rfl, hb2⟩
      have HB2 := Aside0.mk hb2
      clear hb2
      go_wp2_with fail
      go_ret
      exact ⟨rfl, HB1.out.trans (HB2.out.mono HB1.out.size)⟩
    | true =>
      have hTP := hb rfl
      have hRel := run_rel ts [] [] (turnsP_good hTP HA.out.2.2.2) ⟨List.nodup_nil, fun y h => by simp at h⟩ (List.Perm.refl _)
      have h40 := hTP.len
      have HREL := Aside0.mk (And.intro hRel h40)
      clear hb hTP hRel h40
      go_wp2_with fail
      refine (spec_calls ts A c w1 (Kd.C_below HA.out.1 HB1.out) HA.out.2.1 (by have := HREL.out.2; omega)).mono ?_
      rintro en w2 ⟨v, u, rfl, hRv, hRu, hb2⟩
      have hb02 := HB1.out.trans (hb2.mono HB1.out.size)
      have H2 := Aside0.mk (And.intro hRv (And.intro hRu hb02))
      clear hRv hRu hb02 hb2
      go_wp2_with fail
      refine (run_calls ts A c w2 (Kd.C_below HA.out.1 H2.out.2.2) HA.out.2.1 (HA.out.2.2.1.below H2.out.2.2) HREL.out.1.2.2.1 (by have := HREL.out.2; omega)).mono ?_
      rintro en w3 ⟨v2, rs, rfl, hAn, hRr, hb3, -⟩
      have hRv := Kd.R_below H2.out.1 hb3
      have hRu := Kd.R_below H2.out.2.1 hb3
      have hb03 := H2.out.2.2.trans (hb3.mono H2.out.2.2.size)
      obtain ⟨A3, c3, e3⟩ := Kd.R_slice hRv
      obtain ⟨A4, c4, e4⟩ := Kd.R_slice hRu
      obtain ⟨A5, c5, e5⟩ := Kd.R_slice hRr
      subst e3 e4 e5
      obtain ⟨⟨hp, hal, -, -, hnn⟩, h40⟩ := HREL.out
      have hall := ansAll_trans hAn hal
      have hcount : (runW [] ts).1.length = (specR [] ts).1.length := hp.length_eq.symm
      have hlr : rs.length = ts.length := by rw [hall.len, specR_alen]
      have HS := Aside0.mk (sameAnswers_calls rs (specR [] ts).2 A5 c5 A4 c4 w3 (CA_fromR hRr).2.2 (CA_fromR hRr).2.1 (CA_fromR hRu).2.2 (CA_fromR hRu).2.1 (by omega) hall (fun i hi => by
        have hi' : i < (specR [] ts).2.length := by rw [← hall.len]; exact hi
        have q := ans_at hall i hi
        obtain ⟨q1, q2⟩ := hnn i hi'
        refine ⟨(q.2.map _).nodup_iff.2 q1, ?_⟩
        rw [q.2.length_eq]
        simp only [List.length_nil] at q2
        omega))
      rw [hcount]
      have HB3 := Aside0.mk hb03
      clear hRv hRu hb03 hb3 hAn hRr hp hal hnn h40 hall hcount hlr HT HREL H2
      go_wp2_with fail
      refine HS.out.mono ?_
      rintro en w4 ⟨rfl, hb4⟩
      have HB4 := Aside0.mk (HB3.out.trans (hb4.mono HB3.out.size))
      clear hb4
      go_wp2_with fail
      refine (awake_calls w4 (HA.out.2.2.1.below HB4.out)).mono ?_
      rintro en w5 ⟨rfl, hb5⟩
      have HB5 := Aside0.mk (HB4.out.trans (hb5.mono HB4.out.size))
      clear hb5
      go_wp2_with fail
      go_ret
      exact ⟨rfl, HB5.out⟩

end Go.Proofs.YtnkjlfadegjjoaaDoor.WhT
