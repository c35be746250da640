/- WALKS, as the print wrote them: a task's place by its number, tasks without one, with one more. -/
import Derived.Test.YtnkjlfadegjjoaaDoorProg
import Derived.Below
import Derived.Deep.Draws
import Derived.Deep.AppendLies
import Derived.Maps.AppendAt
import Derived.OwnWalk
import Derived.Laws.BytesArg
import Derived.Laws.MakeOwn
import Derived.Laws.OwnMore
import Derived.Deep.OwnRows
import Derived.Tactics
import Derived.Lib.ConvBytes
import Derived.Laws.Slices
import Derived.WalkKit
import Derived.KernelRfl
import Derived.RowKit3
import Derived.Deep.LoopGhost
import Derived.Deep.QuietTactic
import Derived.BigQuiet
import Derived.WideLaws
import Derived.Deep.DeepCutAuto
import Derived.Deep.CutBlock
import Derived.Deep.RegionHeld3
import Derived.Laws.Rows
import Derived.Lib.AppendStr
import Derived.ArgAppend
import Derived.Laws.IdiomCopy
import Derived.OrdersHeld
import Derived.Laws.BitsLemmas
import Derived.RowKit
import Derived.Test.YtnkjlfadegjjoaaDoorRoad
import Derived.Test.YtnkjlfadegjjoaaDoorWWords
import Derived.Test.YtnkjlfadegjjoaaDoorWLast
import Derived.Test.YtnkjlfadegjjoaaDoorWTab
import Derived.Test.YtnkjlfadegjjoaaDoorWFour
import Derived.Test.YtnkjlfadegjjoaaDoorWQPut
import Derived.Test.YtnkjlfadegjjoaaDoorWApart
import Derived.Test.YtnkjlfadegjjoaaDoorWArr
import Derived.Test.YtnkjlfadegjjoaaDoorWZeros
import Derived.Test.YtnkjlfadegjjoaaDoorWFoot
import Derived.Test.YtnkjlfadegjjoaaDoorWKept
import Derived.Test.YtnkjlfadegjjoaaDoorWShare
import Derived.Test.YtnkjlfadegjjoaaDoorWN
import Derived.Test.YtnkjlfadegjjoaaDoorWFootNe
import Derived.Test.YtnkjlfadegjjoaaDoorWAt
import Derived.Test.YtnkjlfadegjjoaaDoorWEqStruct
import Derived.Test.YtnkjlfadegjjoaaDoorWRepsOne
import Derived.Test.YtnkjlfadegjjoaaDoorWInv
import Derived.Test.YtnkjlfadegjjoaaDoorWInvWords
import Derived.Test.YtnkjlfadegjjoaaDoorWGuard
import Derived.Test.YtnkjlfadegjjoaaDoorWNEv
import Derived.Test.YtnkjlfadegjjoaaDoorWMore
namespace Go.Proofs.YtnkjlfadegjjoaaDoor.WhQ
open Go.RowKit Go.Proofs.YtnkjlfadegjjoaaDoorW.PrintWords Go.Proofs.YtnkjlfadegjjoaaDoorW.PrintLast Go.Proofs.YtnkjlfadegjjoaaDoorW.PrintMore
attribute [local go_sem] max2_int min2_int max_two min_two max_three min_three max_four min_four   -- for this text's walks alone
set_option linter.unusedVariables false
set_option linter.unusedSimpArgs false



def errW : Option Int → Value
  | none => .nilIface
  | some c => .iface 0 (.int .i64 c)
theorem errW_none : errW none = .nilIface := rfl
theorem errW_some (c : Int) : errW (some c) = .iface 0 (.int .i64 c) := rfl

theorem info37 : (Tryd.prog.info? 37).map (fun i => (i.zero, i.size, i.bytes)) = some (some (.agg #[(.int .i64 0), (.slice none 0 0)]), 2, 32) := by kernel_rfl
theorem info39 : (Tryd.prog.info? 39).map (fun i => (i.zero, i.size, i.bytes)) = some (some (.agg #[(.int .u64 0), (.int .i64 0)]), 2, 16) := by kernel_rfl
-- the values' own types
/-! #### struct type 39 -/
structure S39 where
  f0 : Int
  f1 : Int
def z39 : S39 := ⟨(0 : Int), (0 : Int)⟩
def k39 : Kd S39 := Kd.iso (Kd.pair (Kd.int .u64) (Kd.int .i64)) (fun x : S39 => (x.f0, x.f1))
theorem k39_open {w : World} {x : S39} {cs : List Value} (h : k39.K w x cs) : cs = [.int .u64 x.f0, .int .i64 x.f1] := by
  obtain ⟨_, _, rfl, rfl, rfl⟩ := h
  exact rfl
theorem k39_openM {w : World} {base : Nat} {ok : Nat → Prop} {x : S39} {cs : List Value} (h : k39.M w base ok x cs) : cs = [.int .u64 x.f0, .int .i64 x.f1] := by
  obtain ⟨_, _, rfl, rfl, rfl⟩ := h
  exact rfl
theorem k39_mk (w : World) (x : S39)  : k39.K w x [.int .u64 x.f0, .int .i64 x.f1] := ⟨[.int .u64 x.f0], [.int .i64 x.f1], rfl, rfl, rfl⟩
theorem k39_mkM (w : World) (base : Nat) (ok : Nat → Prop) (x : S39)  : k39.M w base ok x [.int .u64 x.f0, .int .i64 x.f1] := ⟨[.int .u64 x.f0], [.int .i64 x.f1], rfl, rfl, rfl⟩
def rd_T39 (xs : List S39) (i : Int) : S39 := xs.getD i.toNat z39
theorem at_T39 {w : World} {A : Option Addr} {n : Nat} {xs : List S39} (h : Kd.C k39 w A n xs) (i : Int) (h0 : 0 ≤ i) (h1 : i < n) : ∃ ad , A = some ad ∧ w.cell? (ad.add (i.toNat * 2)) = some (.int .u64 (rd_T39 xs i).f0) ∧ w.cell? ⟨(ad.add (i.toNat * 2)).block, (ad.add (i.toNat * 2)).off + 1, none⟩ = some (.int .i64 (rd_T39 xs i).f1) := by
  obtain ⟨ad, c, e, _, hK, hc0⟩ := Kd.C_get h z39 i h0 h1
  have hc : ∀ j u, c[j]? = some u → w.cell? (ad.add (i.toNat * 2 + j)) = some u := hc0
  obtain rfl := k39_open hK
  exact ⟨ad, e, hc 0 _ rfl, by rw [← add_field _ _ 1 (by omega)]; exact hc 1 _ rfl⟩

/-! #### struct type 34 -/
structure S34 where
  f0 : Int
  f1 : Int
  f2 : Int
  f3 : Int
  f4 : Bool
def z34 : S34 := ⟨(0 : Int), (0 : Int), (0 : Int), (0 : Int), false⟩
def k34 : Kd S34 := Kd.iso (Kd.pair (Kd.int .i64) (Kd.pair (Kd.int .u64) (Kd.pair (Kd.int .i64) (Kd.pair (Kd.int .i64) Kd.bool)))) (fun x : S34 => (x.f0, x.f1, x.f2, x.f3, x.f4))
theorem k34_open {w : World} {x : S34} {cs : List Value} (h : k34.K w x cs) : cs = [.int .i64 x.f0, .int .u64 x.f1, .int .i64 x.f2, .int .i64 x.f3, .bool x.f4] := by
  obtain ⟨_, _, rfl, rfl, ⟨_, _, rfl, rfl, ⟨_, _, rfl, rfl, ⟨_, _, rfl, rfl, rfl⟩⟩⟩⟩ := h
  exact rfl
theorem k34_openM {w : World} {base : Nat} {ok : Nat → Prop} {x : S34} {cs : List Value} (h : k34.M w base ok x cs) : cs = [.int .i64 x.f0, .int .u64 x.f1, .int .i64 x.f2, .int .i64 x.f3, .bool x.f4] := by
  obtain ⟨_, _, rfl, rfl, ⟨_, _, rfl, rfl, ⟨_, _, rfl, rfl, ⟨_, _, rfl, rfl, rfl⟩⟩⟩⟩ := h
  exact rfl
theorem k34_mk (w : World) (x : S34)  : k34.K w x [.int .i64 x.f0, .int .u64 x.f1, .int .i64 x.f2, .int .i64 x.f3, .bool x.f4] := ⟨[.int .i64 x.f0], [.int .u64 x.f1, .int .i64 x.f2, .int .i64 x.f3, .bool x.f4], rfl, rfl, ⟨[.int .u64 x.f1], [.int .i64 x.f2, .int .i64 x.f3, .bool x.f4], rfl, rfl, ⟨[.int .i64 x.f2], [.int .i64 x.f3, .bool x.f4], rfl, rfl, ⟨[.int .i64 x.f3], [.bool x.f4], rfl, rfl, rfl⟩⟩⟩⟩
theorem k34_mkM (w : World) (base : Nat) (ok : Nat → Prop) (x : S34)  : k34.M w base ok x [.int .i64 x.f0, .int .u64 x.f1, .int .i64 x.f2, .int .i64 x.f3, .bool x.f4] := ⟨[.int .i64 x.f0], [.int .u64 x.f1, .int .i64 x.f2, .int .i64 x.f3, .bool x.f4], rfl, rfl, ⟨[.int .u64 x.f1], [.int .i64 x.f2, .int .i64 x.f3, .bool x.f4], rfl, rfl, ⟨[.int .i64 x.f2], [.int .i64 x.f3, .bool x.f4], rfl, rfl, ⟨[.int .i64 x.f3], [.bool x.f4], rfl, rfl, rfl⟩⟩⟩⟩
def rd_T34 (xs : List S34) (i : Int) : S34 := xs.getD i.toNat z34
theorem at_T34 {w : World} {A : Option Addr} {n : Nat} {xs : List S34} (h : Kd.C k34 w A n xs) (i : Int) (h0 : 0 ≤ i) (h1 : i < n) : ∃ ad , A = some ad ∧ w.cell? (ad.add (i.toNat * 5)) = some (.int .i64 (rd_T34 xs i).f0) ∧ w.cell? ⟨(ad.add (i.toNat * 5)).block, (ad.add (i.toNat * 5)).off + 1, none⟩ = some (.int .u64 (rd_T34 xs i).f1) ∧ w.cell? ⟨(ad.add (i.toNat * 5)).block, (ad.add (i.toNat * 5)).off + 2, none⟩ = some (.int .i64 (rd_T34 xs i).f2) ∧ w.cell? ⟨(ad.add (i.toNat * 5)).block, (ad.add (i.toNat * 5)).off + 3, none⟩ = some (.int .i64 (rd_T34 xs i).f3) ∧ w.cell? ⟨(ad.add (i.toNat * 5)).block, (ad.add (i.toNat * 5)).off + 4, none⟩ = some (.bool (rd_T34 xs i).f4) := by
  obtain ⟨ad, c, e, _, hK, hc0⟩ := Kd.C_get h z34 i h0 h1
  have hc : ∀ j u, c[j]? = some u → w.cell? (ad.add (i.toNat * 5 + j)) = some u := hc0
  obtain rfl := k34_open hK
  exact ⟨ad, e, hc 0 _ rfl, by rw [← add_field _ _ 1 (by omega)]; exact hc 1 _ rfl, by rw [← add_field _ _ 2 (by omega)]; exact hc 2 _ rfl, by rw [← add_field _ _ 3 (by omega)]; exact hc 3 _ rfl, by rw [← add_field _ _ 4 (by omega)]; exact hc 4 _ rfl⟩

def rd_L5 (xs : List (List S39)) (i : Int) : (List S39) := xs.getD i.toNat ([] : List S39)
theorem at_L5 {w : World} {A : Option Addr} {n : Nat} {xs : List (List S39)} (h : Kd.C (Kd.slice 39 k39) w A n xs) (i : Int) (h0 : 0 ≤ i) (h1 : i < n) : ∃ ad A0 c0, A = some ad ∧ w.cell? (ad.add i.toNat) = some (.slice A0 (rd_L5 xs i).length c0) ∧ (rd_L5 xs i).length ≤ c0 ∧ k39.C w A0 (rd_L5 xs i).length (rd_L5 xs i) := by
  obtain ⟨ad, c, e, _, hK, hc0⟩ := Kd.C_get h ([] : List S39) i h0 h1
  have hc : ∀ j u, c[j]? = some u → w.cell? (ad.add (i.toNat * 1 + j)) = some u := hc0
  obtain ⟨A0, c0, rfl, l0, g0⟩ := hK
  exact ⟨ad, A0, c0, e, by have hq := hc 0 _ rfl; rwa [Nat.mul_one, Nat.add_zero] at hq, l0, g0⟩

/-! #### struct type 37 -/
structure S37 where
  f0 : Int
  f1 : (List S39)
def z37 : S37 := ⟨(0 : Int), ([] : List S39)⟩
def k37 : Kd S37 := Kd.iso (Kd.pair (Kd.int .i64) (Kd.slice 39 k39)) (fun x : S37 => (x.f0, x.f1))
theorem k37_open {w : World} {x : S37} {cs : List Value} (h : k37.K w x cs) : ∃ A1 c1, cs = [.int .i64 x.f0, .slice A1 x.f1.length c1] ∧ x.f1.length ≤ c1 ∧ k39.C w A1 x.f1.length x.f1 := by
  obtain ⟨_, _, rfl, rfl, ⟨A1, c1, rfl, l1, g1⟩⟩ := h
  exact ⟨A1, c1, rfl, l1, g1⟩
theorem k37_openM {w : World} {base : Nat} {ok : Nat → Prop} {x : S37} {cs : List Value} (h : k37.M w base ok x cs) : ∃ v1, cs = [.int .i64 x.f0, v1] ∧ k39.R 39 w base ok v1 x.f1 := by
  obtain ⟨_, _, rfl, rfl, ⟨v1, rfl, g1⟩⟩ := h
  exact ⟨v1, rfl, g1⟩
theorem k37_mk (w : World) (x : S37) {A1 : Option Addr} {c1 : Nat} (l1 : x.f1.length ≤ c1) (g1 : k39.C w A1 x.f1.length x.f1) : k37.K w x [.int .i64 x.f0, .slice A1 x.f1.length c1] := ⟨[.int .i64 x.f0], [.slice A1 x.f1.length c1], rfl, rfl, ⟨A1, c1, rfl, l1, g1⟩⟩
theorem k37_mkM (w : World) (base : Nat) (ok : Nat → Prop) (x : S37) {v1 : Value} (g1 : k39.R 39 w base ok v1 x.f1) : k37.M w base ok x [.int .i64 x.f0, v1] := ⟨[.int .i64 x.f0], [v1], rfl, rfl, ⟨v1, rfl, g1⟩⟩
def rd_T37 (xs : List S37) (i : Int) : S37 := xs.getD i.toNat z37
theorem at_T37 {w : World} {A : Option Addr} {n : Nat} {xs : List S37} (h : Kd.C k37 w A n xs) (i : Int) (h0 : 0 ≤ i) (h1 : i < n) : ∃ ad A1 c1, A = some ad ∧ w.cell? (ad.add (i.toNat * 2)) = some (.int .i64 (rd_T37 xs i).f0) ∧ w.cell? ⟨(ad.add (i.toNat * 2)).block, (ad.add (i.toNat * 2)).off + 1, none⟩ = some (.slice A1 (rd_T37 xs i).f1.length c1) ∧ (rd_T37 xs i).f1.length ≤ c1 ∧ k39.C w A1 (rd_T37 xs i).f1.length (rd_T37 xs i).f1 := by
  obtain ⟨ad, c, e, _, hK, hc0⟩ := Kd.C_get h z37 i h0 h1
  have hc : ∀ j u, c[j]? = some u → w.cell? (ad.add (i.toNat * 2 + j)) = some u := hc0
  obtain ⟨A1, c1, rfl, l1, g1⟩ := k37_open hK
  exact ⟨ad, A1, c1, e, hc 0 _ rfl, by rw [← add_field _ _ 1 (by omega)]; exact hc 1 _ rfl, l1, g1⟩


theorem eqA39 (d : Nat) (w : World) (x0 y0 : Int) (x1 y1 : Int) :
    (Op.equalIn (d + 2) 39 (.agg #[.int .u64 x0, .int .i64 x1]) (.agg #[.int .u64 y0, .int .i64 y1])).run Tryd.prog w = .ok (x0 == y0 && (x1 == y1)) w := by
  refine eqA_of Tryd.underlying39 (by kernel_rfl) ?_
  refine eqf_cons (by rfl) (by go_simp; rfl) (by go_simp; rfl) (by go_simp) ?_
  exact eqf_last (by rfl) (by go_simp; rfl) (by go_simp; rfl) (by go_simp)

/-! ### spec_seat: function 15 -/
def spec_seat.l0 : Nat → List (S39) → Int → Int → Option (Int)
  | 0, _, _, _ => none
  | k + 1, x0, x1, x5 => if x5 < (x0.length : Int) then (if 0 ≤ x5 then (if ((rd_T39 x0 x5).f0) = x1 then (some x5) else (spec_seat.l0 k x0 x1 (wrap64 (x5 + 1)))) else (none)) else (some (-1))
def spec_seat.f (k : Nat) (l0 : List (S39)) (a1 : Int) : Option (Int) := spec_seat.l0 k l0 a1 0
theorem spec_seat.mono_l : ∀ k, (∀ y0 y1 y2, LeO (spec_seat.l0 k y0 y1 y2) (spec_seat.l0 (k + 1) y0 y1 y2))
  | 0 => fun _ _ _ r h => by simp [spec_seat.l0] at h
  | k + 1 => by
    have ih0 := spec_seat.mono_l k
    · intro y0 y1 y2
      unfold spec_seat.l0
      repeat' first
      | (with_reducible exact ih0 _ _ _)
      | (with_reducible exact LeO.refl _)
      | (with_reducible exact LeO.none _)
      | (with_reducible refine LeO.ite ?_ ?_)
      | (with_reducible refine LeO.bind ?_ (fun _ => ?_))
      | exact ih0 _ _ _
      | exact LeO.none _
      | refine LeO.ite ?_ ?_
      | refine LeO.bind ?_ (fun _ => ?_)
theorem spec_seat.mono : ∀ a0 a1 k, LeO (spec_seat.f k a0 a1) (spec_seat.f (k + 1) a0 a1) := by
  intro a0 a1 k
  have ih0 := spec_seat.mono_l k
  unfold spec_seat.f
  repeat' first
      | (with_reducible exact ih0 _ _ _)
      | (with_reducible exact LeO.refl _)
      | (with_reducible exact LeO.none _)
      | (with_reducible refine LeO.ite ?_ ?_)
      | (with_reducible refine LeO.bind ?_ (fun _ => ?_))
      | exact ih0 _ _ _
      | exact LeO.none _
      | refine LeO.ite ?_ ?_
      | refine LeO.bind ?_ (fun _ => ?_)
set_option maxHeartbeats 8000000 in
set_option maxRecDepth 100000 in
theorem spec_seat.calls (k : Nat) (A0 : Option Addr) (c0 : Nat) (l0 : List (S39)) (a1 : Int) (r : Int) (w : World) (hr0 : Kd.C k39 w A0 l0.length l0) (hc0 : l0.length ≤ c0) (h : spec_seat.f k l0 a1 = some r) :
    Calls Tryd.prog 15 #[.slice A0 l0.length c0, .int .u64 a1] w fun e w' => e = .returned (.int .i64 r) ∧ Drawn0 w w' := by
  have HR0 := Aside0.mk hr0
  have HC0 := Aside0.mk hc0
  clear hr0 hc0
  have H : (spec_seat.l0 k l0 a1 0) = some r := h
  clear h
  have H' := Aside0.mk H
  clear H
  go_enter Tryd.func15, Tryd.ntmps15
  go_wp2
  go_loopg [5] k (fun kq v5 w' => ∃ (x5_1 : Int), v5 = .int .i64 x5_1 ∧ Aside0 (spec_seat.l0 kq l0 a1 x5_1 = some r) ∧ Aside0 (kq ≤ k) ∧ Drawn0 w w')
  case atStart => exact ⟨(0), (by first | rfl | (simp; done) | (simp [*]; done)), H', ⟨Nat.le_refl _⟩, by repeat (first | exact Drawn0.refl _ | apply Drawn0.step)⟩
  case round =>
    clear H'
    try clear c1
    try clear p2
    obtain ⟨x5_1, rfl, HA, HK1, ⟨m1, rfl⟩⟩ := hrel
    cases gk with
    | zero => exact absurd HA.out (by simp [spec_seat.l0])
    | succ k1 =>
      have H := HA.out
      clear HA
      simp only [spec_seat.l0] at H
      by_cases c3 : x5_1 < (l0.length : Int)
      · rw [if_pos c3] at H
        have c3b0 : decide (x5_1 < (l0.length : Int)) = true := decide_eq_true c3
        clear c3
        by_cases c4 : 0 ≤ x5_1
        · rw [if_pos c4] at H
          have c4b0 : decide (0 ≤ x5_1) = true := decide_eq_true c4
          clear c4
          by_cases c5 : ((rd_T39 l0 x5_1).f0) = a1
          · rw [if_pos c5] at H
            have c5b0 : (((rd_T39 l0 x5_1).f0) == a1) = true := beq_iff_eq.mpr c5
            have c5b1 : (((rd_T39 l0 x5_1).f0) != a1) = false := bne_eq_false_iff_eq.mpr c5
            clear c5
            obtain rfl := Option.some.inj H
            have p101 : 0 ≤ (x5_1 : Int) := of_decide_eq_true (by first | (with_reducible assumption) | assumption)
            have q101 : x5_1 < (l0.length : Int) := of_decide_eq_true (by first | (with_reducible assumption) | assumption)
            obtain ⟨ad101, e101, hx101_0, hx101_1⟩ := at_T39 HR0.out x5_1 p101 q101
            cases e101
            replace p101 := eq_true p101
            replace q101 := eq_true q101
            go_wp2
            go_ret
            exact ⟨by first | rfl | (simp; done) | (simp [*]; done) | (simp; generalize ByteArray.toList _ = l_; cases l_ <;> rfl), by repeat (first | exact Drawn0.refl _ | apply Drawn0.step)⟩
          · rw [if_neg c5] at H
            have c5b0 : (((rd_T39 l0 x5_1).f0) == a1) = false := beq_eq_false_iff_ne.mpr c5
            have c5b1 : (((rd_T39 l0 x5_1).f0) != a1) = true := bne_iff_ne.mpr c5
            have H' := Aside0.mk H
            clear H
            have p101 : 0 ≤ (x5_1 : Int) := of_decide_eq_true (by first | (with_reducible assumption) | assumption)
            have q101 : x5_1 < (l0.length : Int) := of_decide_eq_true (by first | (with_reducible assumption) | assumption)
            obtain ⟨ad101, e101, hx101_0, hx101_1⟩ := at_T39 HR0.out x5_1 p101 q101
            cases e101
            replace p101 := eq_true p101
            replace q101 := eq_true q101
            go_wp2
            go_roundg k1
            case measure => have := HK1.out; omega
            case rel => exact ⟨(wrap64 (x5_1 + 1)), (by first | rfl | (simp; done) | (simp [*]; done)), H', ⟨by have := HK1.out; omega⟩, by repeat (first | exact Drawn0.refl _ | apply Drawn0.step)⟩
        · rw [if_neg c4] at H
          exact absurd H (by simp)
      · rw [if_neg c3] at H
        have c3b0 : decide (x5_1 < (l0.length : Int)) = false := decide_eq_false c3
        clear c3
        obtain rfl := Option.some.inj H
        go_wp2
        go_ret
        exact ⟨by first | rfl | (simp; done) | (simp [*]; done) | (simp; generalize ByteArray.toList _ = l_; cases l_ <;> rfl), by repeat (first | exact Drawn0.refl _ | apply Drawn0.step)⟩

/-! ### spec_without: function 16 -/
def spec_without.f (l0 : List (S39)) (a1 : Int) : Option ((List (S39))) := (some (([] : List (S39)) : List (S39))).bind fun y102 => (if 0 ≤ a1 then (if a1 ≤ (l0.length : Int) then ((some (l0.take (a1 : Int).toNat : List (S39))).bind fun y105 => (if y102.length + y105.length < 8796093022208 then ((some (y102 ++ y105 : List (S39))).bind fun y109 => (if 0 ≤ (wrap64 (a1 + 1)) then (if (wrap64 (a1 + 1)) ≤ (l0.length : Int) then ((some (l0.drop ((wrap64 (a1 + 1)) : Int).toNat : List (S39))).bind fun y112 => (if y109.length + y112.length < 8796093022208 then (some (y109 ++ y112)) else (none))) else (none)) else (none))) else (none))) else (none)) else (none))
def spec_without.T1 : Bool × List (List Nat × List Nat) := (true, [([], []), ([], []), ([], []), ([1, 2], [1, 2]), ([0, 3], [0, 3]), ([], []), ([], []), ([6], [6]), ([5, 7], [5, 7]), ([4, 8, 4], [4, 8]), ([9, 9, 0, 1, 2, 3, 4, 5, 6, 7, 8, 9], [9])])
def spec_without.B1 : List Nat := [0, 0, 0, 6, 15, 0, 0, 64, 224, 511, 1023]
theorem spec_without.tab1 : rtab .any (opsOf Tryd.f16 1) = spec_without.T1 := by kernel_rfl
theorem spec_without.bits1 : waitsOk spec_without.T1.2 spec_without.B1 = true := by kernel_rfl
set_option maxHeartbeats 8000000 in
set_option maxRecDepth 100000 in
theorem spec_without.calls (A0 : Option Addr) (c0 : Nat) (l0 : List (S39)) (a1 : Int) (r : List (S39)) (w : World) (hr0 : Kd.C k39 w A0 l0.length l0) (hc0 : l0.length ≤ c0) (h : spec_without.f l0 a1 = some r) :
    Calls Tryd.prog 16 #[.slice A0 l0.length c0, .int .i64 a1] w fun e w' => ∃ v0_ : Value, e = .returned (v0_) ∧ Kd.R k39 39 w' w.heap.size (fun _ => True) v0_ r ∧ Below w.heap.size w w' := by
  have HR0 := Aside0.mk hr0
  have HC0 := Aside0.mk hc0
  clear hr0 hc0
  have HB := Aside0.mk (Below.refl w.heap.size w)
  have H : ((some (([] : List (S39)) : List (S39))).bind fun y102 => (if 0 ≤ a1 then (if a1 ≤ (l0.length : Int) then ((some (l0.take (a1 : Int).toNat : List (S39))).bind fun y105 => (if y102.length + y105.length < 8796093022208 then ((some (y102 ++ y105 : List (S39))).bind fun y109 => (if 0 ≤ (wrap64 (a1 + 1)) then (if (wrap64 (a1 + 1)) ≤ (l0.length : Int) then ((some (l0.drop ((wrap64 (a1 + 1)) : Int).toNat : List (S39))).bind fun y112 => (if y109.length + y112.length < 8796093022208 then (some (y109 ++ y112)) else (none))) else (none)) else (none))) else (none))) else (none)) else (none))) = some r := h
  clear h
  obtain ⟨y102, hy102⟩ : ∃ y_ : List (S39), y_ = (([] : List (S39))) := ⟨_, rfl⟩
  replace H : (if 0 ≤ a1 then (if a1 ≤ (l0.length : Int) then ((some (l0.take (a1 : Int).toNat : List (S39))).bind fun y105 => (if y102.length + y105.length < 8796093022208 then ((some (y102 ++ y105 : List (S39))).bind fun y109 => (if 0 ≤ (wrap64 (a1 + 1)) then (if (wrap64 (a1 + 1)) ≤ (l0.length : Int) then ((some (l0.drop ((wrap64 (a1 + 1)) : Int).toNat : List (S39))).bind fun y112 => (if y109.length + y112.length < 8796093022208 then (some (y109 ++ y112)) else (none))) else (none)) else (none))) else (none))) else (none)) else (none)) = some r := by first | (rw [hy102]; with_reducible exact H) | (have H2_ := (Option.bind_some _ _).symm.trans H; rw [hy102]; with_reducible exact H2_) | (have H2_ := (Option.bind_some _ _).symm.trans H; with_reducible exact H2_) | with_reducible exact H | (rw [hy102]; exact H) | exact H
  have Ny102 := Aside0.mk hy102
  clear hy102
  by_cases c3 : 0 ≤ a1
  · rw [if_pos c3] at H
    have c3b0 := eq_true c3
    have c3b1 : decide (0 ≤ a1) = true := decide_eq_true c3
    clear c3
    by_cases c4 : a1 ≤ (l0.length : Int)
    · rw [if_pos c4] at H
      have c4b0 := eq_true c4
      have c4b1 : decide (a1 ≤ (l0.length : Int)) = true := decide_eq_true c4
      clear c4
      obtain ⟨y105, hy105⟩ : ∃ y_ : List (S39), y_ = (l0.take (a1 : Int).toNat) := ⟨_, rfl⟩
      replace H : (if y102.length + y105.length < 8796093022208 then ((some (y102 ++ y105 : List (S39))).bind fun y109 => (if 0 ≤ (wrap64 (a1 + 1)) then (if (wrap64 (a1 + 1)) ≤ (l0.length : Int) then ((some (l0.drop ((wrap64 (a1 + 1)) : Int).toNat : List (S39))).bind fun y112 => (if y109.length + y112.length < 8796093022208 then (some (y109 ++ y112)) else (none))) else (none)) else (none))) else (none)) = some r := by first | (rw [hy105]; with_reducible exact H) | (have H2_ := (Option.bind_some _ _).symm.trans H; rw [hy105]; with_reducible exact H2_) | (have H2_ := (Option.bind_some _ _).symm.trans H; with_reducible exact H2_) | with_reducible exact H | (rw [hy105]; exact H) | exact H
      have Ny105 := Aside0.mk hy105
      clear hy105
      by_cases c5 : y102.length + y105.length < 8796093022208
      · rw [if_pos c5] at H
        have LMc5 := Aside0.mk c5
        clear c5
        obtain ⟨y109, hy109⟩ : ∃ y_ : List (S39), y_ = (y102 ++ y105) := ⟨_, rfl⟩
        replace H : (if 0 ≤ (wrap64 (a1 + 1)) then (if (wrap64 (a1 + 1)) ≤ (l0.length : Int) then ((some (l0.drop ((wrap64 (a1 + 1)) : Int).toNat : List (S39))).bind fun y112 => (if y109.length + y112.length < 8796093022208 then (some (y109 ++ y112)) else (none))) else (none)) else (none)) = some r := by first | (rw [hy109]; with_reducible exact H) | (have H2_ := (Option.bind_some _ _).symm.trans H; rw [hy109]; with_reducible exact H2_) | (have H2_ := (Option.bind_some _ _).symm.trans H; with_reducible exact H2_) | with_reducible exact H | (rw [hy109]; exact H) | exact H
        have Ny109 := Aside0.mk hy109
        clear hy109
        obtain ⟨ji6, hji6⟩ : ∃ j_ : Int, (wrap64 (a1 + 1)) = j_ := ⟨_, rfl⟩
        replace H : (if 0 ≤ (ji6) then (if (ji6) ≤ (l0.length : Int) then ((some (l0.drop ((ji6) : Int).toNat : List (S39))).bind fun y112 => (if y109.length + y112.length < 8796093022208 then (some (y109 ++ y112)) else (none))) else (none)) else (none)) = some r := by first | (rw [hji6] at H; exact H) | (simp only [hji6] at H ⊢; exact H)
        have hji6w : (IntKind.i64.wrap (a1 + 1)) = ji6 := (i64_w _).trans hji6
        by_cases c7 : 0 ≤ (ji6)
        · rw [if_pos c7] at H
          have c7b0 := eq_true c7
          have c7b1 : decide (0 ≤ (ji6)) = true := decide_eq_true c7
          clear c7
          by_cases c8 : (ji6) ≤ (l0.length : Int)
          · rw [if_pos c8] at H
            have c8b0 := eq_true c8
            have c8b1 : decide ((ji6) ≤ (l0.length : Int)) = true := decide_eq_true c8
            clear c8
            obtain ⟨y112, hy112⟩ : ∃ y_ : List (S39), y_ = (l0.drop ((ji6) : Int).toNat) := ⟨_, rfl⟩
            replace H : (if y109.length + y112.length < 8796093022208 then (some (y109 ++ y112)) else (none)) = some r := by first | (rw [hy112]; with_reducible exact H) | (have H2_ := (Option.bind_some _ _).symm.trans H; rw [hy112]; with_reducible exact H2_) | (have H2_ := (Option.bind_some _ _).symm.trans H; with_reducible exact H2_) | with_reducible exact H | (rw [hy112]; exact H) | exact H
            have Ny112 := Aside0.mk hy112
            clear hy112
            by_cases c9 : y109.length + y112.length < 8796093022208
            · rw [if_pos c9] at H
              have LMc9 := Aside0.mk c9
              clear c9
              obtain ⟨y116, hy116⟩ : ∃ y_ : List (S39), y_ = (y109 ++ y112) := ⟨_, rfl⟩
              replace H : (some y116) = some r := by first | (rw [hy116]; with_reducible exact H) | (have H2_ := (Option.bind_some _ _).symm.trans H; rw [hy116]; with_reducible exact H2_) | (have H2_ := (Option.bind_some _ _).symm.trans H; with_reducible exact H2_) | with_reducible exact H | (rw [hy116]; exact H) | exact H
              have Ny116 := Aside0.mk hy116
              clear hy116
              obtain rfl := Option.some.inj H
              go_enter Tryd.func16, Tryd.ntmps16
              try go_wp2
              have n0_ := Aside0.mk (below_drew1 HB.out)
              clear HB
              have HB := n0_
              clear n0_
              have q11 : (a1 : Int) ≤ ((l0.length : Int) : Int) := of_decide_eq_true (by first | (with_reducible assumption) | assumption)
              obtain ⟨i011, hi011, _, hsz11, _⟩ := info_parts info39
              have hroom11 : l0.length ≤ c0 := HC0.out
              have hC11 : Kd.C k39 _ A0 l0.length l0 := HR0.out
              have hcut11 := cut_to (P := Tryd.prog) 25 39 .i64 Tryd.underlying25 hi011 A0 l0.length c0 a1 (of_decide_eq_true (by first | (with_reducible assumption) | assumption)) q11 hroom11
              have hr11 := Kd.C_take (m := (a1 : Int).toNat) hC11 (by omega)
              have hy11 : y105.length = (a1 : Int).toNat := (by rw [Ny105.out, List.length_take]; omega)
              rw [← Ny105.out] at hr11
              rw [← hy11] at hcut11
              have HR108 := Aside0.mk hr11
              have HC108 := Aside0.mk (show y105.length ≤ c0 from by omega)
              clear hr11 hC11 hroom11 hi011 hsz11
              have KY11 := Aside0.mk hy11
              clear hy11
              replace q11 := eq_true q11
              have q12 : ((ji6) : Int) ≤ ((l0.length : Int) : Int) := of_decide_eq_true (by first | (with_reducible assumption) | assumption)
              obtain ⟨i012, hi012, _, hsz12, _⟩ := info_parts info39
              have hroom12 : l0.length ≤ c0 := HC0.out
              have hC12 : Kd.C k39 _ A0 l0.length l0 := HR0.out
              have q012 : (0 : Int) ≤ ((ji6) : Int) := of_decide_eq_true (by first | (with_reducible assumption) | assumption)
              have hcut12 := cut_from (P := Tryd.prog) 25 39 .i64 Tryd.underlying25 hi012 2 hsz12 A0 l0.length c0 (ji6) q012 q12
              have hr12 := Kd.C_drop (m := ((ji6) : Int).toNat) (c := c0) hC12 (by omega) hroom12
              obtain ⟨A12, hA12⟩ : ∃ A1, A1 = (if c0 = ((ji6) : Int).toNat then A0 else (A0 : Option Addr).map (·.add (((ji6) : Int).toNat * 2))) := ⟨_, rfl⟩
              obtain ⟨c12, hc12⟩ : ∃ c1, c1 = c0 - ((ji6) : Int).toNat := ⟨_, rfl⟩
              have hy12 : y112.length = l0.length - ((ji6) : Int).toNat := (by rw [Ny112.out, List.length_drop] <;> omega)
              rw [show (l0).drop ((ji6) : Int).toNat = y112 from Ny112.out.symm] at hr12
              replace hr12 : Kd.C k39 _ A12 y112.length y112 := (by rw [hA12]; exact hr12)
              rw [← hy12, ← hA12, ← hc12] at hcut12
              have HR115 := Aside0.mk hr12
              have HC115 := Aside0.mk (show y112.length ≤ c12 from by rw [hy12, hc12]; exact Nat.sub_le_sub_right hroom12 _)
              clear hr12 hC12 hroom12 hi012 hsz12 hc12
              have KY12 := Aside0.mk hy12
              have KA12 := Aside0.mk hA12
              clear hy12 hA12
              replace q12 := eq_true q12
              refine start_ (n := 11) (S := fun w' => True) (ds := []) #[false, false, false, false, false, false, false, false, false, false, false] (by kernel_rfl) rfl rfl trivial (fun hHeld => ?_); refine with_tabW spec_without.tab1 spec_without.bits1 (fun HT_ HW_ => ?_)
              generalize w.drew = w10 at HB HR108 HR115 hHeld ⊢
              refine pure_ (i := 1) (N := some 6) (v := ?_) (a' := ?_) #[false, true, false, false, false, false, false, false, false, false, false] rfl rfl (any_of HT_.out (by kernel_rfl)) (fun _ _ _ h => h) (Or.inl ⟨by rfl, ?_⟩) ?_ ?_
              rotate_left
              · intro w'
                go_simp
                with_reducible rfl
              rotate_left
              · simp only [Act.put, List.setIfInBounds_toArray, List.set_cons_zero, List.set_cons_succ, i64_w, i32_w]
                rfl
              refine pure_ (i := 2) (N := some 7) (v := ?_) (a' := ?_) #[false, true, true, false, false, false, false, false, false, false, false] rfl rfl (any_of HT_.out (by kernel_rfl)) (fun _ _ _ h => h) (Or.inl ⟨by rfl, ?_⟩) ?_ ?_
              rotate_left
              · intro w'
                go_simp
                with_reducible rfl
              rotate_left
              · simp only [Act.put, List.setIfInBounds_toArray, List.set_cons_zero, List.set_cons_succ, i64_w, i32_w]
                rfl
              refine pure_ (i := 3) (N := some 8) (v := ?_) (a' := ?_) #[false, true, true, true, false, false, false, false, false, false, false] rfl rfl (any_of HT_.out (by kernel_rfl)) (fun _ _ _ h => h) (Or.inl ⟨by rfl, ?_⟩) ?_ ?_
              rotate_left
              · intro w'
                go_simp
                with_reducible rfl
              rotate_left
              · simp only [Act.put, List.setIfInBounds_toArray, List.set_cons_zero, List.set_cons_succ, i64_w, i32_w]
                rfl
              refine pure_ (i := 5) (N := some 10) (v := ?_) (a' := ?_) #[false, true, true, true, false, true, false, false, false, false, false] rfl rfl (any_of HT_.out (by kernel_rfl)) (fun _ _ _ h => h) (Or.inl ⟨by rfl, ?_⟩) ?_ ?_
              rotate_left
              · intro w'
                go_simp
                with_reducible rfl
              rotate_left
              · simp only [Act.put, List.setIfInBounds_toArray, List.set_cons_zero, List.set_cons_succ, i64_w, i32_w]
                rfl
              refine pure_ (i := 6) (N := some 11) (v := ?_) (a' := ?_) #[false, true, true, true, false, true, true, false, false, false, false] rfl rfl (any_of HT_.out (by kernel_rfl)) (fun _ _ _ h => h) (Or.inl ⟨by rfl, ?_⟩) ?_ ?_
              rotate_left
              · intro w'
                go_simp
                with_reducible rfl
              rotate_left
              · simp only [Act.put, List.setIfInBounds_toArray, List.set_cons_zero, List.set_cons_succ, i64_w, i32_w]
                rfl
              refine pure_ (i := 7) (N := some 12) (v := ?_) (a' := ?_) #[false, true, true, true, false, true, true, true, false, false, false] rfl rfl (any_of HT_.out (by kernel_rfl)) (fun _ _ _ h => h) (Or.inl ⟨by rfl, ?_⟩) ?_ ?_
              rotate_left
              · intro w'
                go_simp
                with_reducible rfl
              rotate_left
              · simp only [Act.put, List.setIfInBounds_toArray, List.set_cons_zero, List.set_cons_succ, i64_w, i32_w]
                rfl
              refine pure_ (i := 8) (N := some 13) (v := ?_) (a' := ?_) #[false, true, true, true, false, true, true, true, true, false, false] rfl rfl (any_of HT_.out (by kernel_rfl)) (fun _ _ _ h => h) (Or.inl ⟨by rfl, ?_⟩) ?_ ?_
              rotate_left
              · intro w'
                go_simp
                with_reducible rfl
              rotate_left
              · simp only [Act.put, List.setIfInBounds_toArray, List.set_cons_zero, List.set_cons_succ, i64_w, i32_w]
                rfl
              refine one_ (i := 0) (N := some 5) #[true, true, true, true, false, true, true, true, true, false, false] rfl rfl (one_of HT_.out (by kernel_rfl)) (by decide) (fun K hK => ?_)
              refine Kd.R_lit_step k39 _ 39 ?hg (N := 5) ?hd (xs := ([] : List (S39))) (inner := []) (ok := fun _ => True) (okp := fun _ => True) ?hr ?hp (fun _ hk => hk) trivial (Below.refl _ _) (Nat.le_refl _) (by simp) ?_; (case hd => rfl); (case hg => rfl); (case hr => first | (go_simp; done) | (go_simp; rfl)); (case hp => exact (Reps.none _ _))
              intro v103 w13 ho14 hb hg_ hnew_
              clear hg_ hnew_
              (first | rw [← Ny102.out] at ho14 | (simp only [Int.reduceToNat] at ho14; rw [← Ny102.out] at ho14))
              have n0_ := Aside0.mk (Kd.R_lower ho14 (below_size (by repeat (first | (with_reducible first | exact HB.out | apply below_alloc | apply pw_below_drewN | apply below_drew1) | exact HB.out))))
              have n1_ := Aside0.mk (below_step (by repeat (first | (with_reducible first | exact HB.out | apply below_alloc | apply pw_below_drewN | apply below_drew1) | exact HB.out)) hb)
              clear HB
              have HO104 := n0_
              have HB := n1_
              clear n0_ n1_
              clear hb ho14
              refine hK.out _ _ trivial (fun hHeld => ?_)
              clear hK K
              refine norm_ (a' := ?_) ?_ ?_
              rotate_left
              · show Act.put _ (some 5) _ = _
                simp only [Act.put, List.setIfInBounds_toArray, List.set_cons_zero, List.set_cons_succ, i64_w, i32_w]
                rfl
              refine one_ (i := 4) (N := some 9) #[true, true, true, true, true, true, true, true, true, false, false] rfl rfl (one_of HT_.out (by kernel_rfl)) (by decide) (fun K hK => ?_)
              refine Kd.R_append_rows_step k39 (w0 := w) w.heap.size (by rfl) (.tmp 5) (.tmp 8) 25 39 (.agg #[(.int .u64 0), (.int .i64 0)]) 16 rfl Tryd.underlying25 info39 rfl (by decide) (by omega) v103 y102 y105 _ _ _ (fun _ => True) (fun _ => False) rfl rfl ?aO ?aR (fun _ _ h => h) (fun _ h => h.elim) ?aF ?aB ?aS ?aL ?_
              (case aR => repeat (first | exact (Kd.C_below HR108.out HB.out) | (with_reducible refine Kd.C_alloc ?_ _) | (with_reducible refine Kd.C_drewN ?_ _) | (with_reducible refine Kd.C_drew ?_)))
              (case aB => exact (by repeat (first | (with_reducible first | exact HB.out | apply below_alloc | apply pw_below_drewN | apply below_drew1) | exact HB.out)))
              (case aF => exact (fun _ _ => trivial))
              (case aO => exact (by (with_reducible repeat (first | apply Kd.R_alloc | apply Kd.R_drewN | apply Kd.R_drew)); exact HO104.out))
              (case aS => exact (below_size (by repeat (first | (with_reducible first | exact HB.out | apply below_alloc | apply pw_below_drewN | apply below_drew1) | exact HB.out))))
              (case aL => have := LMc5.out; omega)
              intro v110 w15 ho hb hg hat
              rw [← Ny109.out] at ho
              have n0_ := Aside0.mk (hb)
              have n1_ := Aside0.mk (ho)
              clear HB
              clear HO104
              have HB := n0_
              have HO111 := n1_
              clear n0_ n1_
              clear ho hb hg hat
              refine hK.out _ _ trivial (fun hHeld => ?_)
              clear hK K
              refine norm_ (a' := ?_) ?_ ?_
              rotate_left
              · show Act.put _ (some 9) _ = _
                simp only [Act.put, List.setIfInBounds_toArray, List.set_cons_zero, List.set_cons_succ, i64_w, i32_w]
                rfl
              refine one_ (i := 9) (N := some 14) #[true, true, true, true, true, true, true, true, true, true, false] rfl rfl (one_of HT_.out (by kernel_rfl)) (by decide) (fun K hK => ?_)
              refine Kd.R_append_rows_step k39 (w0 := w) w.heap.size (by rfl) (.tmp 9) (.tmp 13) 25 39 (.agg #[(.int .u64 0), (.int .i64 0)]) 16 rfl Tryd.underlying25 info39 rfl (by decide) (by omega) v110 y109 y112 _ _ _ (fun _ => True) (fun _ => False) rfl rfl ?aO ?aR (fun _ _ h => h) (fun _ h => h.elim) ?aF ?aB ?aS ?aL ?_
              (case aR => repeat (first | exact (Kd.C_below HR115.out HB.out) | (with_reducible refine Kd.C_alloc ?_ _) | (with_reducible refine Kd.C_drewN ?_ _) | (with_reducible refine Kd.C_drew ?_)))
              (case aB => exact (by repeat (first | (with_reducible first | exact HB.out | apply below_alloc | apply pw_below_drewN | apply below_drew1) | exact HB.out)))
              (case aF => exact (fun _ _ => trivial))
              (case aO => exact (by (with_reducible repeat (first | apply Kd.R_alloc | apply Kd.R_drewN | apply Kd.R_drew)); exact HO111.out))
              (case aS => exact (below_size (by repeat (first | (with_reducible first | exact HB.out | apply below_alloc | apply pw_below_drewN | apply below_drew1) | exact HB.out))))
              (case aL => have := LMc9.out; omega)
              intro v117 w16 ho hb hg hat
              rw [← Ny116.out] at ho
              have n0_ := Aside0.mk (hb)
              have n1_ := Aside0.mk (ho)
              clear HB
              clear HO111
              have HB := n0_
              have HO118 := n1_
              clear n0_ n1_
              clear ho hb hg hat
              refine hK.out _ _ trivial (fun hHeld => ?_)
              clear hK K
              refine norm_ (a' := ?_) ?_ ?_
              rotate_left
              · show Act.put _ (some 14) _ = _
                simp only [Act.put, List.setIfInBounds_toArray, List.set_cons_zero, List.set_cons_succ, i64_w, i32_w]
                rfl
              refine pure_ (i := 10) (N := some 4) (v := ?_) (a' := ?_) #[true, true, true, true, true, true, true, true, true, true, true] rfl rfl (any_of HT_.out (by kernel_rfl)) (fun _ _ _ h => h) (Or.inl ⟨by rfl, ?_⟩) ?_ ?_
              rotate_left
              · intro w'
                go_simp
                with_reducible rfl
              rotate_left
              · simp only [Act.put, List.setIfInBounds_toArray, List.set_cons_zero, List.set_cons_succ, i64_w, i32_w]
                rfl
              refine done_ (done_of HT_.out (by kernel_rfl)) ?_
              try go_wp2
              go_ret
              exact ⟨_, by first | rfl | (simp [errW_none, errW_some] <;> rfl) | (simp only [← hji6]; first | rfl | (simp [errW_none, errW_some] <;> rfl)) | (simp [*, errW_none, errW_some] <;> rfl), by (with_reducible repeat (first | apply Kd.R_alloc | apply Kd.R_drewN | apply Kd.R_drew)); exact HO118.out, by repeat (first | (with_reducible first | exact HB.out | apply below_alloc | apply pw_below_drewN | apply below_drew1) | exact HB.out)⟩
            · rw [if_neg c9] at H
              exact absurd H (by simp)
          · rw [if_neg c8] at H
            exact absurd H (by simp)
        · rw [if_neg c7] at H
          exact absurd H (by simp)
      · rw [if_neg c5] at H
        exact absurd H (by simp)
    · rw [if_neg c4] at H
      exact absurd H (by simp)
  · rw [if_neg c3] at H
    exact absurd H (by simp)


/-! ### spec_put: function 17 -/
def spec_put.l0 : Nat → List (S39) → Int → Int → Int → Option ((List (S39)))
  | 0, _, _, _, _ => none
  | k + 1, x0, x5, x120000, x120001 => if x5 < (x0.length : Int) then (if 0 ≤ x5 then (if ((rd_T39 x0 x5).f0) < x120000 then (spec_put.l0 k x0 (wrap64 (x5 + 1)) x120000 x120001) else ((some (([] : List (S39)) : List (S39))).bind fun y121 => (if x5 ≤ (x0.length : Int) then ((some (x0.take (x5 : Int).toNat : List (S39))).bind fun y124 => (if y121.length + y124.length < 8796093022208 then ((some (y121 ++ y124 : List (S39))).bind fun y128 => ((some (([(⟨x120000, x120001⟩ : S39)] : List (S39)) : List (S39))).bind fun y131 => (if y128.length + y131.length < 8796093022208 then ((some (y128 ++ y131 : List (S39))).bind fun y134 => ((some (x0.drop (x5 : Int).toNat : List (S39))).bind fun y137 => (if y134.length + y137.length < 8796093022208 then (some (y134 ++ y137)) else (none)))) else (none)))) else (none))) else (none)))) else (none)) else ((some (([] : List (S39)) : List (S39))).bind fun y144 => (if 0 ≤ x5 then (if x5 ≤ (x0.length : Int) then ((some (x0.take (x5 : Int).toNat : List (S39))).bind fun y147 => (if y144.length + y147.length < 8796093022208 then ((some (y144 ++ y147 : List (S39))).bind fun y151 => ((some (([(⟨x120000, x120001⟩ : S39)] : List (S39)) : List (S39))).bind fun y154 => (if y151.length + y154.length < 8796093022208 then ((some (y151 ++ y154 : List (S39))).bind fun y157 => ((some (x0.drop (x5 : Int).toNat : List (S39))).bind fun y160 => (if y157.length + y160.length < 8796093022208 then (some (y157 ++ y160)) else (none)))) else (none)))) else (none))) else (none)) else (none)))
def spec_put.f (k : Nat) (l0 : List (S39)) (a1_0 : Int) (a1_1 : Int) : Option ((List (S39))) := spec_put.l0 k l0 0 a1_0 a1_1
theorem spec_put.mono_l : ∀ k, (∀ y0 y1 y2 y3, LeO (spec_put.l0 k y0 y1 y2 y3) (spec_put.l0 (k + 1) y0 y1 y2 y3))
  | 0 => fun _ _ _ _ r h => by simp [spec_put.l0] at h
  | k + 1 => by
    have ih0 := spec_put.mono_l k
    · intro y0 y1 y2 y3
      unfold spec_put.l0
      repeat' first
      | (with_reducible exact ih0 _ _ _ _)
      | (with_reducible exact LeO.refl _)
      | (with_reducible exact LeO.none _)
      | (with_reducible refine LeO.ite ?_ ?_)
      | (with_reducible refine LeO.bind ?_ (fun _ => ?_))
      | exact ih0 _ _ _ _
      | exact LeO.none _
      | refine LeO.ite ?_ ?_
      | refine LeO.bind ?_ (fun _ => ?_)
theorem spec_put.mono : ∀ a0 a1 a2 k, LeO (spec_put.f k a0 a1 a2) (spec_put.f (k + 1) a0 a1 a2) := by
  intro a0 a1 a2 k
  have ih0 := spec_put.mono_l k
  unfold spec_put.f
  repeat' first
      | (with_reducible exact ih0 _ _ _ _)
      | (with_reducible exact LeO.refl _)
      | (with_reducible exact LeO.none _)
      | (with_reducible refine LeO.ite ?_ ?_)
      | (with_reducible refine LeO.bind ?_ (fun _ => ?_))
      | exact ih0 _ _ _ _
      | exact LeO.none _
      | refine LeO.ite ?_ ?_
      | refine LeO.bind ?_ (fun _ => ?_)
def spec_put.T2 : Bool × List (List Nat × List Nat) := (true, [([], []), ([], []), ([1], [1]), ([0, 2], [0, 2]), ([3], [3]), ([4], [4]), ([4], [4]), ([5, 6, 4], [4, 5, 6]), ([7, 4], [4, 7]), ([8, 4], [4, 8]), ([4], [4]), ([10, 4], [4, 10]), ([9, 11, 4], [4, 9, 11]), ([4, 12], [4, 12])])
def spec_put.B2 : List Nat := [0, 0, 2, 7, 15, 31, 31, 127, 255, 511, 31, 1055, 4095, 8191]
theorem spec_put.tab2 : rtab .any (opsOf Tryd.f17 2) = spec_put.T2 := by kernel_rfl
theorem spec_put.bits2 : waitsOk spec_put.T2.2 spec_put.B2 = true := by kernel_rfl
def spec_put.T4 : Bool × List (List Nat × List Nat) := (true, [([], []), ([], []), ([], []), ([1, 2], [1, 2]), ([0, 3], [0, 3]), ([], []), ([5], [5]), ([4, 6, 4], [4, 6]), ([], []), ([], []), ([8, 9], [8, 9]), ([7, 10, 7], [7, 10]), ([11, 11, 0, 1, 2, 3, 4, 5, 6, 7, 8, 9, 10, 11], [11])])
def spec_put.B4 : List Nat := [0, 0, 0, 6, 15, 0, 32, 127, 0, 0, 768, 2047, 4095]
theorem spec_put.tab4 : rtab .any (opsOf Tryd.f17 4) = spec_put.T4 := by kernel_rfl
theorem spec_put.bits4 : waitsOk spec_put.T4.2 spec_put.B4 = true := by kernel_rfl
set_option maxHeartbeats 8000000 in
set_option maxRecDepth 100000 in
theorem spec_put.calls (k : Nat) (A0 : Option Addr) (c0 : Nat) (l0 : List (S39)) (a1_0 : Int) (a1_1 : Int) (r : List (S39)) (w : World) (hr0 : Kd.C k39 w A0 l0.length l0) (hc0 : l0.length ≤ c0) (h : spec_put.f k l0 a1_0 a1_1 = some r) :
    Calls Tryd.prog 17 #[.slice A0 l0.length c0, .agg #[.int .u64 a1_0, .int .i64 a1_1]] w fun e w' => ∃ v0_ : Value, e = .returned (v0_) ∧ Kd.R k39 39 w' w.heap.size (fun _ => True) v0_ r ∧ Below w.heap.size w w' := by
  have hu39 := Tryd.underlying39
  have HR0 := Aside0.mk hr0
  have HC0 := Aside0.mk hc0
  clear hr0 hc0
  have HB := Aside0.mk (Below.refl w.heap.size w)
  have H : (spec_put.l0 k l0 0 a1_0 a1_1) = some r := h
  clear h
  have H' := Aside0.mk H
  clear H
  go_enter Tryd.func17, Tryd.ntmps17
  go_wp2_with (first | ((with_reducible refine gate_dst (N := 3) rfl ?_); refine box_event ?hg (N := 3) ?hd (cs := #[.int .u64 a1_0, .int .i64 a1_1]) (t := 39) ?hr ?_; (case hd => rfl); (case hg => rfl); (case hr => first | (go_simp; done) | (go_simp; rfl)); intro gb119 hg w3 hbox hb; have n0_ := Aside0.mk (below_step (by repeat (first | (with_reducible first | exact HB.out | apply below_alloc | apply pw_below_drewN | apply below_drew1) | exact HB.out)) hb); have n1_ := Aside0.mk (hbox); have n2_ := Aside0.mk ((by rw [hg]; exact (below_size (by repeat (first | (with_reducible first | exact HB.out | apply below_alloc | apply pw_below_drewN | apply below_drew1) | exact HB.out))) : w.heap.size ≤ gb119)); have n3_ := Aside0.mk ((by rw [hg]; exact (below_size (by repeat (first | (with_reducible first | exact HB.out | apply below_alloc | apply pw_below_drewN | apply below_drew1) | exact HB.out))) : w.heap.size ≤ gb119)); clear HB; have HB := n0_; have BK119 := n1_; have GW119 := n2_; have GE119 := n3_; clear n0_ n1_ n2_ n3_; clear hb hbox hg))
  go_loopg [5] k (fun kq v5 w' => ∃ (x5_1 : Int), v5 = .int .i64 x5_1 ∧ Aside0 (spec_put.l0 kq l0 x5_1 a1_0 a1_1 = some r) ∧ Aside0 (kq ≤ k) ∧ Aside0 (w'.heap[gb119]? = some (.cells #[.int .u64 a1_0, .int .i64 a1_1] 39 (0, 0))) ∧ Aside0 (Below w.heap.size w w'))
  case atStart => exact ⟨(0), (by first | rfl | (simp; done) | (simp [*]; done)), H', ⟨Nat.le_refl _⟩, ⟨by (with_reducible repeat (first | refine blk_drewN ?_ _ | refine blk_drew ?_ | refine blk_alloc ?_ _)); exact BK119.out⟩, ⟨by repeat (first | (with_reducible first | exact HB.out | apply below_alloc | apply pw_below_drewN | apply below_drew1 | refine below_set ?_ GE119.out) | exact HB.out)⟩⟩
  case round =>
    clear H'
    try clear c1
    try clear p2
    obtain ⟨x5_1, rfl, HA, HK1, BK119, HB⟩ := hrel
    cases gk with
    | zero => exact absurd HA.out (by simp [spec_put.l0])
    | succ k1 =>
      have H := HA.out
      clear HA
      simp only [spec_put.l0] at H
      by_cases c4 : x5_1 < (l0.length : Int)
      · rw [if_pos c4] at H
        have c4b0 : decide (x5_1 < (l0.length : Int)) = true := decide_eq_true c4
        clear c4
        by_cases c5 : 0 ≤ x5_1
        · rw [if_pos c5] at H
          have c5b0 : decide (0 ≤ x5_1) = true := decide_eq_true c5
          clear c5
          by_cases c6 : ((rd_T39 l0 x5_1).f0) < a1_0
          · rw [if_pos c6] at H
            have c6b0 : decide (((rd_T39 l0 x5_1).f0) < a1_0) = true := decide_eq_true c6
            clear c6
            have H' := Aside0.mk H
            clear H
            try go_wp2
            have n0_ := Aside0.mk (blk_drew BK119.out)
            have n1_ := Aside0.mk (below_drew1 HB.out)
            clear BK119
            clear HB
            have BK119 := n0_
            have HB := n1_
            clear n0_ n1_
            have p120 : 0 ≤ (x5_1 : Int) := of_decide_eq_true (by first | (with_reducible assumption) | assumption)
            have q120 : x5_1 < (l0.length : Int) := of_decide_eq_true (by first | (with_reducible assumption) | assumption)
            obtain ⟨ad120, e120, hx120_0, hx120_1⟩ := at_T39 HR0.out x5_1 p120 q120
            have hw120_1 := hx120_1
            have hw120_0 := hx120_0
            cases e120
            replace hx120_0 := (HB.out.cell (World.block_lt_of_cell? w _ hx120_0)).trans hx120_0
            replace hx120_1 := (HB.out.cell (World.block_lt_of_cell? w _ hx120_1)).trans hx120_1
            replace p120 := eq_true p120
            replace q120 := eq_true q120
            refine start_ (n := 14) (S := fun w' => w'.cell? ⟨gb119, 0, none⟩ = some (.int .u64 a1_0) ∧ w'.cell? ⟨gb119, 1, none⟩ = some (.int .i64 a1_1) ∧ w'.cell? (ad120.add ((x5_1).toNat * 2)) = some (.int .u64 ((rd_T39 l0 x5_1).f0)) ∧ w'.cell? ⟨(ad120.add ((x5_1).toNat * 2)).block, (ad120.add ((x5_1).toNat * 2)).off + 1, none⟩ = some (.int .i64 ((rd_T39 l0 x5_1).f1))) (ds := []) #[false, false, false, false, false, false, false, false, false, false, false, false, false, false] (by kernel_rfl) rfl rfl ⟨(blk_cell BK119.out 0).trans rfl, (blk_cell BK119.out 1).trans rfl, ((HB.out.cell (World.block_lt_of_cell? w _ hw120_0)).trans hw120_0), ((HB.out.cell (World.block_lt_of_cell? w _ hw120_1)).trans hw120_1)⟩ (fun hHeld => ?_); refine with_tabW spec_put.tab2 spec_put.bits2 (fun HT_ HW_ => ?_)
            generalize wr.drew = w7 at BK119 HB hx120_0 hx120_1 hHeld ⊢
            refine pure_ (i := 0) (N := some 6) (v := ?_) (a' := ?_) #[true, false, false, false, false, false, false, false, false, false, false, false, false, false] rfl rfl (any_of HT_.out (by kernel_rfl)) (fun _ _ _ h => h) (Or.inl ⟨by rfl, ?_⟩) ?_ ?_
            rotate_left
            · intro w'
              go_simp
              with_reducible rfl
            rotate_left
            · simp only [Act.put, List.setIfInBounds_toArray, List.set_cons_zero, List.set_cons_succ, i64_w, i32_w]
              rfl
            refine pure_ (i := 1) (N := some 7) (v := ?_) (a' := ?_) #[true, true, false, false, false, false, false, false, false, false, false, false, false, false] rfl rfl (any_of HT_.out (by kernel_rfl)) (fun _ _ _ h => h) (Or.inl ⟨by rfl, ?_⟩) ?_ ?_
            rotate_left
            · intro w'
              go_simp
              with_reducible rfl
            rotate_left
            · simp only [Act.put, List.setIfInBounds_toArray, List.set_cons_zero, List.set_cons_succ, i64_w, i32_w]
              rfl
            refine pure_ (i := 2) (N := some 8) (v := ?_) (a' := ?_) #[true, true, true, false, false, false, false, false, false, false, false, false, false, false] rfl rfl (any_of HT_.out (by kernel_rfl)) (fun _ _ _ h => h) (Or.inl ⟨by rfl, ?_⟩) ?_ ?_
            rotate_left
            · intro w'
              go_simp
              with_reducible rfl
            rotate_left
            · simp only [Act.put, List.setIfInBounds_toArray, List.set_cons_zero, List.set_cons_succ, i64_w, i32_w]
              rfl
            refine pure_ (i := 3) (N := some 9) (v := ?_) (a' := ?_) #[true, true, true, true, false, false, false, false, false, false, false, false, false, false] rfl rfl (any_of HT_.out (by kernel_rfl)) (fun _ _ _ h => h) (Or.inl ⟨by rfl, ?_⟩) ?_ ?_
            rotate_left
            · intro w'
              go_simp
              with_reducible rfl
            rotate_left
            · simp only [Act.put, List.setIfInBounds_toArray, List.set_cons_zero, List.set_cons_succ, i64_w, i32_w]
              rfl
            refine pure_ (i := 4) (N := some 10) (v := ?_) (a' := ?_) #[true, true, true, true, true, false, false, false, false, false, false, false, false, false] rfl rfl (any_of HT_.out (by kernel_rfl)) (fun _ _ _ h => h) (Or.inl ⟨by rfl, ?_⟩) ?_ ?_
            rotate_left
            · intro w'
              go_simp
              with_reducible rfl
            rotate_left
            · simp only [Act.put, List.setIfInBounds_toArray, List.set_cons_zero, List.set_cons_succ, i64_w, i32_w]
              rfl
            refine pure_ (i := 5) (N := some 11) (v := ?_) (a' := ?_) #[true, true, true, true, true, true, false, false, false, false, false, false, false, false] rfl rfl (any_of HT_.out (by kernel_rfl)) (fun _ _ _ h => h) (Or.inl ⟨by rfl, ?_⟩) ?_ ?_
            rotate_left
            · intro w'
              go_simp
              with_reducible rfl
            rotate_left
            · simp only [Act.put, List.setIfInBounds_toArray, List.set_cons_zero, List.set_cons_succ, i64_w, i32_w]
              rfl
            refine pure_ (i := 6) (N := some 12) (v := ?_) (a' := ?_) #[true, true, true, true, true, true, true, false, false, false, false, false, false, false] rfl rfl (any_of HT_.out (by kernel_rfl)) (fun _ _ _ h => h) (Or.inl ⟨by rfl, ?_⟩) ?_ ?_
            rotate_left
            · intro w'
              go_simp
              with_reducible rfl
            rotate_left
            · simp only [Act.put, List.setIfInBounds_toArray, List.set_cons_zero, List.set_cons_succ, i64_w, i32_w]
              rfl
            refine pure_ (i := 7) (N := some 13) (v := ?_) (a' := ?_) #[true, true, true, true, true, true, true, true, false, false, false, false, false, false] rfl rfl (any_of HT_.out (by kernel_rfl)) (fun _ _ _ h => h) (Or.inl ⟨by rfl, ?_⟩) ?_ ?_
            rotate_left
            · intro w'
              go_simp
              with_reducible rfl
            rotate_left
            · simp only [Act.put, List.setIfInBounds_toArray, List.set_cons_zero, List.set_cons_succ, i64_w, i32_w]
              rfl
            refine pure_ (i := 8) (N := some 14) (v := ?_) (a' := ?_) #[true, true, true, true, true, true, true, true, true, false, false, false, false, false] rfl rfl (any_of HT_.out (by kernel_rfl)) (fun _ _ _ h => h) (Or.inl ⟨by rfl, ?_⟩) ?_ ?_
            rotate_left
            · intro w'
              go_simp
              with_reducible rfl
            rotate_left
            · simp only [Act.put, List.setIfInBounds_toArray, List.set_cons_zero, List.set_cons_succ, i64_w, i32_w]
              rfl
            refine pure_ (i := 10) (N := some 16) (v := ?_) (a' := ?_) #[true, true, true, true, true, true, true, true, true, false, true, false, false, false] rfl rfl (any_of HT_.out (by kernel_rfl)) (fun _ _ _ h => h) (Or.inl ⟨by rfl, ?_⟩) ?_ ?_
            rotate_left
            · intro w'
              go_simp
              with_reducible rfl
            rotate_left
            · simp only [Act.put, List.setIfInBounds_toArray, List.set_cons_zero, List.set_cons_succ, i64_w, i32_w]
              rfl
            refine take_ (i := 9) (N := some 15) (v := ?_) (a' := ?_) #[true, true, true, true, true, true, true, true, true, true, true, false, false, false] rfl rfl (take_ofW HT_.out HW_.out (by kernel_rfl)) (fun _ _ _ h => h) (Or.inl ⟨by rfl, ?_⟩) hHeld ?_ ?_
            rotate_left
            · rintro w' ⟨s0, s1, s2, s3⟩
              go_simp
              with_reducible rfl
            rotate_left
            · simp only [Act.put, List.setIfInBounds_toArray, List.set_cons_zero, List.set_cons_succ, i64_w, i32_w]
              rfl
            refine take_ (i := 11) (N := some 17) (v := ?_) (a' := ?_) #[true, true, true, true, true, true, true, true, true, true, true, true, false, false] rfl rfl (take_ofW HT_.out HW_.out (by kernel_rfl)) (fun _ _ _ h => h) (Or.inl ⟨by rfl, ?_⟩) hHeld ?_ ?_
            rotate_left
            · rintro w' ⟨s0, s1, s2, s3⟩
              go_simp
              with_reducible rfl
            rotate_left
            · simp only [Act.put, List.setIfInBounds_toArray, List.set_cons_zero, List.set_cons_succ, i64_w, i32_w]
              rfl
            refine pure_ (i := 12) (N := some 18) (v := ?_) (a' := ?_) #[true, true, true, true, true, true, true, true, true, true, true, true, true, false] rfl rfl (any_of HT_.out (by kernel_rfl)) (fun _ _ _ h => h) (Or.inl ⟨by rfl, ?_⟩) ?_ ?_
            rotate_left
            · intro w'
              go_simp
              with_reducible rfl
            rotate_left
            · simp only [Act.put, List.setIfInBounds_toArray, List.set_cons_zero, List.set_cons_succ, i64_w, i32_w]
              rfl
            refine pure_ (i := 13) (N := some 19) (v := ?_) (a' := ?_) #[true, true, true, true, true, true, true, true, true, true, true, true, true, true] rfl rfl (any_of HT_.out (by kernel_rfl)) (fun _ _ _ h => h) (Or.inl ⟨by rfl, ?_⟩) ?_ ?_
            rotate_left
            · intro w'
              go_simp
              with_reducible rfl
            rotate_left
            · simp only [Act.put, List.setIfInBounds_toArray, List.set_cons_zero, List.set_cons_succ, i64_w, i32_w]
              rfl
            refine done_ (done_of HT_.out (by kernel_rfl)) ?_
            try go_wp2
            go_roundg k1
            case measure => have := HK1.out; omega
            case rel => exact ⟨(wrap64 (x5_1 + 1)), (by first | rfl | (simp; done) | (simp [*]; done)), H', ⟨by have := HK1.out; omega⟩, ⟨by (with_reducible repeat (first | refine blk_drewN ?_ _ | refine blk_drew ?_ | refine blk_alloc ?_ _)); exact BK119.out⟩, ⟨by repeat (first | (with_reducible first | exact HB.out | apply below_alloc | apply pw_below_drewN | apply below_drew1 | refine below_set ?_ GE119.out) | exact HB.out)⟩⟩
          · rw [if_neg c6] at H
            have c6b0 : decide (((rd_T39 l0 x5_1).f0) < a1_0) = false := decide_eq_false c6
            clear c6
            obtain ⟨y121, hy121⟩ : ∃ y_ : List (S39), y_ = (([] : List (S39))) := ⟨_, rfl⟩
            replace H : (if x5_1 ≤ (l0.length : Int) then ((some (l0.take (x5_1 : Int).toNat : List (S39))).bind fun y124 => (if y121.length + y124.length < 8796093022208 then ((some (y121 ++ y124 : List (S39))).bind fun y128 => ((some (([(⟨a1_0, a1_1⟩ : S39)] : List (S39)) : List (S39))).bind fun y131 => (if y128.length + y131.length < 8796093022208 then ((some (y128 ++ y131 : List (S39))).bind fun y134 => ((some (l0.drop (x5_1 : Int).toNat : List (S39))).bind fun y137 => (if y134.length + y137.length < 8796093022208 then (some (y134 ++ y137)) else (none)))) else (none)))) else (none))) else (none)) = some r := by first | (rw [hy121]; with_reducible exact H) | (have H2_ := (Option.bind_some _ _).symm.trans H; rw [hy121]; with_reducible exact H2_) | (have H2_ := (Option.bind_some _ _).symm.trans H; with_reducible exact H2_) | with_reducible exact H | (rw [hy121]; exact H) | exact H
            have Ny121 := Aside0.mk hy121
            clear hy121
            have c8b0 := eq_true (of_decide_eq_true (by first | (with_reducible assumption) | assumption) : 0 ≤ x5_1)
            by_cases c9 : x5_1 ≤ (l0.length : Int)
            · rw [if_pos c9] at H
              have c9b0 := eq_true c9
              have c9b1 : decide (x5_1 ≤ (l0.length : Int)) = true := decide_eq_true c9
              clear c9
              obtain ⟨y124, hy124⟩ : ∃ y_ : List (S39), y_ = (l0.take (x5_1 : Int).toNat) := ⟨_, rfl⟩
              replace H : (if y121.length + y124.length < 8796093022208 then ((some (y121 ++ y124 : List (S39))).bind fun y128 => ((some (([(⟨a1_0, a1_1⟩ : S39)] : List (S39)) : List (S39))).bind fun y131 => (if y128.length + y131.length < 8796093022208 then ((some (y128 ++ y131 : List (S39))).bind fun y134 => ((some (l0.drop (x5_1 : Int).toNat : List (S39))).bind fun y137 => (if y134.length + y137.length < 8796093022208 then (some (y134 ++ y137)) else (none)))) else (none)))) else (none)) = some r := by first | (rw [hy124]; with_reducible exact H) | (have H2_ := (Option.bind_some _ _).symm.trans H; rw [hy124]; with_reducible exact H2_) | (have H2_ := (Option.bind_some _ _).symm.trans H; with_reducible exact H2_) | with_reducible exact H | (rw [hy124]; exact H) | exact H
              have Ny124 := Aside0.mk hy124
              clear hy124
              by_cases c10 : y121.length + y124.length < 8796093022208
              · rw [if_pos c10] at H
                have LMc10 := Aside0.mk c10
                clear c10
                obtain ⟨y128, hy128⟩ : ∃ y_ : List (S39), y_ = (y121 ++ y124) := ⟨_, rfl⟩
                replace H : ((some (([(⟨a1_0, a1_1⟩ : S39)] : List (S39)) : List (S39))).bind fun y131 => (if y128.length + y131.length < 8796093022208 then ((some (y128 ++ y131 : List (S39))).bind fun y134 => ((some (l0.drop (x5_1 : Int).toNat : List (S39))).bind fun y137 => (if y134.length + y137.length < 8796093022208 then (some (y134 ++ y137)) else (none)))) else (none))) = some r := by first | (rw [hy128]; with_reducible exact H) | (have H2_ := (Option.bind_some _ _).symm.trans H; rw [hy128]; with_reducible exact H2_) | (have H2_ := (Option.bind_some _ _).symm.trans H; with_reducible exact H2_) | with_reducible exact H | (rw [hy128]; exact H) | exact H
                have Ny128 := Aside0.mk hy128
                clear hy128
                obtain ⟨y131, hy131⟩ : ∃ y_ : List (S39), y_ = (([(⟨a1_0, a1_1⟩ : S39)] : List (S39))) := ⟨_, rfl⟩
                replace H : (if y128.length + y131.length < 8796093022208 then ((some (y128 ++ y131 : List (S39))).bind fun y134 => ((some (l0.drop (x5_1 : Int).toNat : List (S39))).bind fun y137 => (if y134.length + y137.length < 8796093022208 then (some (y134 ++ y137)) else (none)))) else (none)) = some r := by first | (rw [hy131]; with_reducible exact H) | (have H2_ := (Option.bind_some _ _).symm.trans H; rw [hy131]; with_reducible exact H2_) | (have H2_ := (Option.bind_some _ _).symm.trans H; with_reducible exact H2_) | with_reducible exact H | (rw [hy131]; exact H) | exact H
                have Ny131 := Aside0.mk hy131
                clear hy131
                by_cases c11 : y128.length + y131.length < 8796093022208
                · rw [if_pos c11] at H
                  have LMc11 := Aside0.mk c11
                  clear c11
                  obtain ⟨y134, hy134⟩ : ∃ y_ : List (S39), y_ = (y128 ++ y131) := ⟨_, rfl⟩
                  replace H : ((some (l0.drop (x5_1 : Int).toNat : List (S39))).bind fun y137 => (if y134.length + y137.length < 8796093022208 then (some (y134 ++ y137)) else (none))) = some r := by first | (rw [hy134]; with_reducible exact H) | (have H2_ := (Option.bind_some _ _).symm.trans H; rw [hy134]; with_reducible exact H2_) | (have H2_ := (Option.bind_some _ _).symm.trans H; with_reducible exact H2_) | with_reducible exact H | (rw [hy134]; exact H) | exact H
                  have Ny134 := Aside0.mk hy134
                  clear hy134
                  have c12b0 := eq_true (of_decide_eq_true (by first | (with_reducible assumption) | assumption) : 0 ≤ x5_1)
                  have c13b0 := eq_true (of_decide_eq_true (by first | (with_reducible assumption) | assumption) : x5_1 ≤ (l0.length : Int))
                  obtain ⟨y137, hy137⟩ : ∃ y_ : List (S39), y_ = (l0.drop (x5_1 : Int).toNat) := ⟨_, rfl⟩
                  replace H : (if y134.length + y137.length < 8796093022208 then (some (y134 ++ y137)) else (none)) = some r := by first | (rw [hy137]; with_reducible exact H) | (have H2_ := (Option.bind_some _ _).symm.trans H; rw [hy137]; with_reducible exact H2_) | (have H2_ := (Option.bind_some _ _).symm.trans H; with_reducible exact H2_) | with_reducible exact H | (rw [hy137]; exact H) | exact H
                  have Ny137 := Aside0.mk hy137
                  clear hy137
                  by_cases c14 : y134.length + y137.length < 8796093022208
                  · rw [if_pos c14] at H
                    have LMc14 := Aside0.mk c14
                    clear c14
                    obtain ⟨y141, hy141⟩ : ∃ y_ : List (S39), y_ = (y134 ++ y137) := ⟨_, rfl⟩
                    replace H : (some y141) = some r := by first | (rw [hy141]; with_reducible exact H) | (have H2_ := (Option.bind_some _ _).symm.trans H; rw [hy141]; with_reducible exact H2_) | (have H2_ := (Option.bind_some _ _).symm.trans H; with_reducible exact H2_) | with_reducible exact H | (rw [hy141]; exact H) | exact H
                    have Ny141 := Aside0.mk hy141
                    clear hy141
                    obtain rfl := Option.some.inj H
                    try go_wp2
                    have n0_ := Aside0.mk (blk_drew BK119.out)
                    have n1_ := Aside0.mk (below_drew1 HB.out)
                    clear BK119
                    clear HB
                    have BK119 := n0_
                    have HB := n1_
                    clear n0_ n1_
                    have p120 : 0 ≤ (x5_1 : Int) := of_decide_eq_true (by first | (with_reducible assumption) | assumption)
                    have q120 : x5_1 < (l0.length : Int) := of_decide_eq_true (by first | (with_reducible assumption) | assumption)
                    obtain ⟨ad120, e120, hx120_0, hx120_1⟩ := at_T39 HR0.out x5_1 p120 q120
                    have hw120_1 := hx120_1
                    have hw120_0 := hx120_0
                    cases e120
                    replace hx120_0 := (HB.out.cell (World.block_lt_of_cell? w _ hx120_0)).trans hx120_0
                    replace hx120_1 := (HB.out.cell (World.block_lt_of_cell? w _ hx120_1)).trans hx120_1
                    replace p120 := eq_true p120
                    replace q120 := eq_true q120
                    refine start_ (n := 14) (S := fun w' => w'.cell? ⟨gb119, 0, none⟩ = some (.int .u64 a1_0) ∧ w'.cell? ⟨gb119, 1, none⟩ = some (.int .i64 a1_1) ∧ w'.cell? (ad120.add ((x5_1).toNat * 2)) = some (.int .u64 ((rd_T39 l0 x5_1).f0)) ∧ w'.cell? ⟨(ad120.add ((x5_1).toNat * 2)).block, (ad120.add ((x5_1).toNat * 2)).off + 1, none⟩ = some (.int .i64 ((rd_T39 l0 x5_1).f1))) (ds := []) #[false, false, false, false, false, false, false, false, false, false, false, false, false, false] (by kernel_rfl) rfl rfl ⟨(blk_cell BK119.out 0).trans rfl, (blk_cell BK119.out 1).trans rfl, ((HB.out.cell (World.block_lt_of_cell? w _ hw120_0)).trans hw120_0), ((HB.out.cell (World.block_lt_of_cell? w _ hw120_1)).trans hw120_1)⟩ (fun hHeld => ?_); refine with_tabW spec_put.tab2 spec_put.bits2 (fun HT_ HW_ => ?_)
                    generalize wr.drew = w15 at BK119 HB hx120_0 hx120_1 hHeld ⊢
                    refine pure_ (i := 0) (N := some 6) (v := ?_) (a' := ?_) #[true, false, false, false, false, false, false, false, false, false, false, false, false, false] rfl rfl (any_of HT_.out (by kernel_rfl)) (fun _ _ _ h => h) (Or.inl ⟨by rfl, ?_⟩) ?_ ?_
                    rotate_left
                    · intro w'
                      go_simp
                      with_reducible rfl
                    rotate_left
                    · simp only [Act.put, List.setIfInBounds_toArray, List.set_cons_zero, List.set_cons_succ, i64_w, i32_w]
                      rfl
                    refine pure_ (i := 1) (N := some 7) (v := ?_) (a' := ?_) #[true, true, false, false, false, false, false, false, false, false, false, false, false, false] rfl rfl (any_of HT_.out (by kernel_rfl)) (fun _ _ _ h => h) (Or.inl ⟨by rfl, ?_⟩) ?_ ?_
                    rotate_left
                    · intro w'
                      go_simp
                      with_reducible rfl
                    rotate_left
                    · simp only [Act.put, List.setIfInBounds_toArray, List.set_cons_zero, List.set_cons_succ, i64_w, i32_w]
                      rfl
                    refine pure_ (i := 2) (N := some 8) (v := ?_) (a' := ?_) #[true, true, true, false, false, false, false, false, false, false, false, false, false, false] rfl rfl (any_of HT_.out (by kernel_rfl)) (fun _ _ _ h => h) (Or.inl ⟨by rfl, ?_⟩) ?_ ?_
                    rotate_left
                    · intro w'
                      go_simp
                      with_reducible rfl
                    rotate_left
                    · simp only [Act.put, List.setIfInBounds_toArray, List.set_cons_zero, List.set_cons_succ, i64_w, i32_w]
                      rfl
                    refine pure_ (i := 3) (N := some 9) (v := ?_) (a' := ?_) #[true, true, true, true, false, false, false, false, false, false, false, false, false, false] rfl rfl (any_of HT_.out (by kernel_rfl)) (fun _ _ _ h => h) (Or.inl ⟨by rfl, ?_⟩) ?_ ?_
                    rotate_left
                    · intro w'
                      go_simp
                      with_reducible rfl
                    rotate_left
                    · simp only [Act.put, List.setIfInBounds_toArray, List.set_cons_zero, List.set_cons_succ, i64_w, i32_w]
                      rfl
                    refine pure_ (i := 4) (N := some 10) (v := ?_) (a' := ?_) #[true, true, true, true, true, false, false, false, false, false, false, false, false, false] rfl rfl (any_of HT_.out (by kernel_rfl)) (fun _ _ _ h => h) (Or.inl ⟨by rfl, ?_⟩) ?_ ?_
                    rotate_left
                    · intro w'
                      go_simp
                      with_reducible rfl
                    rotate_left
                    · simp only [Act.put, List.setIfInBounds_toArray, List.set_cons_zero, List.set_cons_succ, i64_w, i32_w]
                      rfl
                    refine pure_ (i := 5) (N := some 11) (v := ?_) (a' := ?_) #[true, true, true, true, true, true, false, false, false, false, false, false, false, false] rfl rfl (any_of HT_.out (by kernel_rfl)) (fun _ _ _ h => h) (Or.inl ⟨by rfl, ?_⟩) ?_ ?_
                    rotate_left
                    · intro w'
                      go_simp
                      with_reducible rfl
                    rotate_left
                    · simp only [Act.put, List.setIfInBounds_toArray, List.set_cons_zero, List.set_cons_succ, i64_w, i32_w]
                      rfl
                    refine pure_ (i := 6) (N := some 12) (v := ?_) (a' := ?_) #[true, true, true, true, true, true, true, false, false, false, false, false, false, false] rfl rfl (any_of HT_.out (by kernel_rfl)) (fun _ _ _ h => h) (Or.inl ⟨by rfl, ?_⟩) ?_ ?_
                    rotate_left
                    · intro w'
                      go_simp
                      with_reducible rfl
                    rotate_left
                    · simp only [Act.put, List.setIfInBounds_toArray, List.set_cons_zero, List.set_cons_succ, i64_w, i32_w]
                      rfl
                    refine pure_ (i := 7) (N := some 13) (v := ?_) (a' := ?_) #[true, true, true, true, true, true, true, true, false, false, false, false, false, false] rfl rfl (any_of HT_.out (by kernel_rfl)) (fun _ _ _ h => h) (Or.inl ⟨by rfl, ?_⟩) ?_ ?_
                    rotate_left
                    · intro w'
                      go_simp
                      with_reducible rfl
                    rotate_left
                    · simp only [Act.put, List.setIfInBounds_toArray, List.set_cons_zero, List.set_cons_succ, i64_w, i32_w]
                      rfl
                    refine pure_ (i := 8) (N := some 14) (v := ?_) (a' := ?_) #[true, true, true, true, true, true, true, true, true, false, false, false, false, false] rfl rfl (any_of HT_.out (by kernel_rfl)) (fun _ _ _ h => h) (Or.inl ⟨by rfl, ?_⟩) ?_ ?_
                    rotate_left
                    · intro w'
                      go_simp
                      with_reducible rfl
                    rotate_left
                    · simp only [Act.put, List.setIfInBounds_toArray, List.set_cons_zero, List.set_cons_succ, i64_w, i32_w]
                      rfl
                    refine pure_ (i := 10) (N := some 16) (v := ?_) (a' := ?_) #[true, true, true, true, true, true, true, true, true, false, true, false, false, false] rfl rfl (any_of HT_.out (by kernel_rfl)) (fun _ _ _ h => h) (Or.inl ⟨by rfl, ?_⟩) ?_ ?_
                    rotate_left
                    · intro w'
                      go_simp
                      with_reducible rfl
                    rotate_left
                    · simp only [Act.put, List.setIfInBounds_toArray, List.set_cons_zero, List.set_cons_succ, i64_w, i32_w]
                      rfl
                    refine take_ (i := 9) (N := some 15) (v := ?_) (a' := ?_) #[true, true, true, true, true, true, true, true, true, true, true, false, false, false] rfl rfl (take_ofW HT_.out HW_.out (by kernel_rfl)) (fun _ _ _ h => h) (Or.inl ⟨by rfl, ?_⟩) hHeld ?_ ?_
                    rotate_left
                    · rintro w' ⟨s0, s1, s2, s3⟩
                      go_simp
                      with_reducible rfl
                    rotate_left
                    · simp only [Act.put, List.setIfInBounds_toArray, List.set_cons_zero, List.set_cons_succ, i64_w, i32_w]
                      rfl
                    refine take_ (i := 11) (N := some 17) (v := ?_) (a' := ?_) #[true, true, true, true, true, true, true, true, true, true, true, true, false, false] rfl rfl (take_ofW HT_.out HW_.out (by kernel_rfl)) (fun _ _ _ h => h) (Or.inl ⟨by rfl, ?_⟩) hHeld ?_ ?_
                    rotate_left
                    · rintro w' ⟨s0, s1, s2, s3⟩
                      go_simp
                      with_reducible rfl
                    rotate_left
                    · simp only [Act.put, List.setIfInBounds_toArray, List.set_cons_zero, List.set_cons_succ, i64_w, i32_w]
                      rfl
                    refine pure_ (i := 12) (N := some 18) (v := ?_) (a' := ?_) #[true, true, true, true, true, true, true, true, true, true, true, true, true, false] rfl rfl (any_of HT_.out (by kernel_rfl)) (fun _ _ _ h => h) (Or.inl ⟨by rfl, ?_⟩) ?_ ?_
                    rotate_left
                    · intro w'
                      go_simp
                      with_reducible rfl
                    rotate_left
                    · simp only [Act.put, List.setIfInBounds_toArray, List.set_cons_zero, List.set_cons_succ, i64_w, i32_w]
                      rfl
                    refine pure_ (i := 13) (N := some 19) (v := ?_) (a' := ?_) #[true, true, true, true, true, true, true, true, true, true, true, true, true, true] rfl rfl (any_of HT_.out (by kernel_rfl)) (fun _ _ _ h => h) (Or.inl ⟨by rfl, ?_⟩) ?_ ?_
                    rotate_left
                    · intro w'
                      go_simp
                      with_reducible rfl
                    rotate_left
                    · simp only [Act.put, List.setIfInBounds_toArray, List.set_cons_zero, List.set_cons_succ, i64_w, i32_w]
                      rfl
                    refine done_ (done_of HT_.out (by kernel_rfl)) ?_
                    try go_wp2
                    have n0_ := Aside0.mk (blk_drew BK119.out)
                    have n1_ := Aside0.mk (below_drew1 HB.out)
                    clear BK119
                    clear HB
                    have BK119 := n0_
                    have HB := n1_
                    clear n0_ n1_
                    have q17 : (x5_1 : Int) ≤ ((l0.length : Int) : Int) := of_decide_eq_true (by first | (with_reducible assumption) | assumption)
                    obtain ⟨i017, hi017, _, hsz17, _⟩ := info_parts info39
                    have hroom17 : l0.length ≤ c0 := HC0.out
                    have hC17 : Kd.C k39 _ (some ad120) l0.length l0 := HR0.out
                    have hcut17 := cut_to (P := Tryd.prog) 25 39 .i64 Tryd.underlying25 hi017 (some ad120) l0.length c0 x5_1 (of_decide_eq_true (by first | (with_reducible assumption) | assumption)) q17 hroom17
                    have hr17 := Kd.C_take (m := (x5_1 : Int).toNat) hC17 (by omega)
                    have hy17 : y124.length = (x5_1 : Int).toNat := (by rw [Ny124.out, List.length_take]; omega)
                    rw [← Ny124.out] at hr17
                    rw [← hy17] at hcut17
                    have HR127 := Aside0.mk hr17
                    have HC127 := Aside0.mk (show y124.length ≤ c0 from by omega)
                    clear hr17 hC17 hroom17 hi017 hsz17
                    have KY17 := Aside0.mk hy17
                    clear hy17
                    replace q17 := eq_true q17
                    have q18 : (x5_1 : Int) ≤ ((l0.length : Int) : Int) := of_decide_eq_true (by first | (with_reducible assumption) | assumption)
                    obtain ⟨i018, hi018, _, hsz18, _⟩ := info_parts info39
                    have hroom18 : l0.length ≤ c0 := HC0.out
                    have hC18 : Kd.C k39 _ (some ad120) l0.length l0 := HR0.out
                    have q018 : (0 : Int) ≤ (x5_1 : Int) := of_decide_eq_true (by first | (with_reducible assumption) | assumption)
                    have hcut18 := cut_from (P := Tryd.prog) 25 39 .i64 Tryd.underlying25 hi018 2 hsz18 (some ad120) l0.length c0 x5_1 q018 q18
                    have hr18 := Kd.C_drop (m := (x5_1 : Int).toNat) (c := c0) hC18 (by omega) hroom18
                    obtain ⟨A18, hA18⟩ : ∃ A1, A1 = (if c0 = (x5_1 : Int).toNat then (some ad120) else ((some ad120) : Option Addr).map (·.add ((x5_1 : Int).toNat * 2))) := ⟨_, rfl⟩
                    obtain ⟨c18, hc18⟩ : ∃ c1, c1 = c0 - (x5_1 : Int).toNat := ⟨_, rfl⟩
                    have hy18 : y137.length = l0.length - (x5_1 : Int).toNat := (by rw [Ny137.out, List.length_drop] <;> omega)
                    rw [show (l0).drop (x5_1 : Int).toNat = y137 from Ny137.out.symm] at hr18
                    replace hr18 : Kd.C k39 _ A18 y137.length y137 := (by rw [hA18]; exact hr18)
                    rw [← hy18, ← hA18, ← hc18] at hcut18
                    have HR140 := Aside0.mk hr18
                    have HC140 := Aside0.mk (show y137.length ≤ c18 from by rw [hy18, hc18]; exact Nat.sub_le_sub_right hroom18 _)
                    clear hr18 hC18 hroom18 hi018 hsz18 hc18
                    have KY18 := Aside0.mk hy18
                    have KA18 := Aside0.mk hA18
                    clear hy18 hA18
                    replace q18 := eq_true q18
                    refine start_ (n := 13) (S := fun w' => w'.cell? ⟨gb119, 0, none⟩ = some (.int .u64 a1_0) ∧ w'.cell? ⟨gb119, 1, none⟩ = some (.int .i64 a1_1)) (ds := []) #[false, false, false, false, false, false, false, false, false, false, false, false, false] (by kernel_rfl) rfl rfl ⟨(blk_cell BK119.out 0).trans rfl, (blk_cell BK119.out 1).trans rfl⟩ (fun hHeld => ?_); refine with_tabW spec_put.tab4 spec_put.bits4 (fun HT_ HW_ => ?_)
                    generalize w15.drew = w16 at BK119 HB HR127 HR140 hHeld ⊢
                    refine pure_ (i := 1) (N := some 23) (v := ?_) (a' := ?_) #[false, true, false, false, false, false, false, false, false, false, false, false, false] rfl rfl (any_of HT_.out (by kernel_rfl)) (fun _ _ _ h => h) (Or.inl ⟨by rfl, ?_⟩) ?_ ?_
                    rotate_left
                    · intro w'
                      go_simp
                      with_reducible rfl
                    rotate_left
                    · simp only [Act.put, List.setIfInBounds_toArray, List.set_cons_zero, List.set_cons_succ, i64_w, i32_w]
                      rfl
                    refine pure_ (i := 2) (N := some 24) (v := ?_) (a' := ?_) #[false, true, true, false, false, false, false, false, false, false, false, false, false] rfl rfl (any_of HT_.out (by kernel_rfl)) (fun _ _ _ h => h) (Or.inl ⟨by rfl, ?_⟩) ?_ ?_
                    rotate_left
                    · intro w'
                      go_simp
                      with_reducible rfl
                    rotate_left
                    · simp only [Act.put, List.setIfInBounds_toArray, List.set_cons_zero, List.set_cons_succ, i64_w, i32_w]
                      rfl
                    refine pure_ (i := 3) (N := some 25) (v := ?_) (a' := ?_) #[false, true, true, true, false, false, false, false, false, false, false, false, false] rfl rfl (any_of HT_.out (by kernel_rfl)) (fun _ _ _ h => h) (Or.inl ⟨by rfl, ?_⟩) ?_ ?_
                    rotate_left
                    · intro w'
                      go_simp
                      with_reducible rfl
                    rotate_left
                    · simp only [Act.put, List.setIfInBounds_toArray, List.set_cons_zero, List.set_cons_succ, i64_w, i32_w]
                      rfl
                    refine pure_ (i := 8) (N := some 30) (v := ?_) (a' := ?_) #[false, true, true, true, false, false, false, false, true, false, false, false, false] rfl rfl (any_of HT_.out (by kernel_rfl)) (fun _ _ _ h => h) (Or.inl ⟨by rfl, ?_⟩) ?_ ?_
                    rotate_left
                    · intro w'
                      go_simp
                      with_reducible rfl
                    rotate_left
                    · simp only [Act.put, List.setIfInBounds_toArray, List.set_cons_zero, List.set_cons_succ, i64_w, i32_w]
                      rfl
                    refine pure_ (i := 9) (N := some 31) (v := ?_) (a' := ?_) #[false, true, true, true, false, false, false, false, true, true, false, false, false] rfl rfl (any_of HT_.out (by kernel_rfl)) (fun _ _ _ h => h) (Or.inl ⟨by rfl, ?_⟩) ?_ ?_
                    rotate_left
                    · intro w'
                      go_simp
                      with_reducible rfl
                    rotate_left
                    · simp only [Act.put, List.setIfInBounds_toArray, List.set_cons_zero, List.set_cons_succ, i64_w, i32_w]
                      rfl
                    refine pure_ (i := 10) (N := some 32) (v := ?_) (a' := ?_) #[false, true, true, true, false, false, false, false, true, true, true, false, false] rfl rfl (any_of HT_.out (by kernel_rfl)) (fun _ _ _ h => h) (Or.inl ⟨by rfl, ?_⟩) ?_ ?_
                    rotate_left
                    · intro w'
                      go_simp
                      with_reducible rfl
                    rotate_left
                    · simp only [Act.put, List.setIfInBounds_toArray, List.set_cons_zero, List.set_cons_succ, i64_w, i32_w]
                      rfl
                    refine take_ (i := 5) (N := some 27) (v := ?_) (a' := ?_) #[false, true, true, true, false, true, false, false, true, true, true, false, false] rfl rfl (take_ofW HT_.out HW_.out (by kernel_rfl)) (fun _ _ _ h => h) (Or.inl ⟨by rfl, ?_⟩) hHeld ?_ ?_
                    rotate_left
                    · rintro w' ⟨s0, s1⟩
                      go_simp
                      with_reducible rfl
                    rotate_left
                    · simp only [Act.put, List.setIfInBounds_toArray, List.set_cons_zero, List.set_cons_succ, i64_w, i32_w]
                      rfl
                    refine join_ (σ := Value × Value × Value) 3 #[true, true, true, true, true, true, true, false, true, true, true, false, false] (fun s_ => [(22, s_.1), (26, s_.2.1), (28, s_.2.2)]) (fun s_ w' => (w'.cell? ⟨gb119, 0, none⟩ = some (.int .u64 a1_0) ∧ w'.cell? ⟨gb119, 1, none⟩ = some (.int .i64 a1_1)) ∧ (Kd.R k39 39 w' w.heap.size (fun k_ => some k_ ≠ (s_.2.2 : Value).ownBlock ∧ k_ ≠ gb119) s_.2.1 y128) ∧ (Kd.R k39 39 w' w.heap.size (fun k_ => some k_ ≠ (s_.2.1 : Value).ownBlock ∧ k_ ≠ gb119) s_.2.2 y131) ∧ (w'.heap[gb119]? = some (.cells #[.int .u64 a1_0, .int .i64 a1_1] 39 (0, 0))) ∧ (Below w.heap.size w w')) ?_ ?_
                    rotate_left
                    · intro hCont
                      refine two_ (i := 0) (j := 6) (Ni := some 22) (Nj := some 28) #[true, true, true, true, false, true, false, false, true, true, true, false, false] #[false, true, true, true, false, true, true, false, true, true, true, false, false] rfl rfl rfl rfl (two_of HT_.out (by kernel_rfl)) (by decide) (by decide) (fun K hK => ?_) (fun K hK => ?_)
                      · skip
                        refine Kd.R_lit_step k39 _ 39 ?hg (N := 22) ?hd (xs := ([] : List (S39))) (inner := []) (ok := fun _ => True) (okp := fun _ => True) ?hr ?hp (fun _ hk => hk) trivial (Below.refl _ _) (Nat.le_refl _) (by simp) ?_; (case hd => rfl); (case hg => rfl); (case hr => first | (go_simp; done) | (go_simp; rfl)); (case hp => exact (Reps.none _ _))
                        intro v122 w19 ho20 hb hg_ hnew_
                        clear hg_ hnew_
                        (first | rw [← Ny121.out] at ho20 | (simp only [Int.reduceToNat] at ho20; rw [← Ny121.out] at ho20))
                        have n0_ := Aside0.mk (Kd.R_lower (Kd.R_newB ho20 (g := gb119) (o := .cells #[.int .u64 a1_0, .int .i64 a1_1] 39 (0, 0)) (by (with_reducible repeat (first | refine blk_drewN ?_ _ | refine blk_drew ?_ | refine blk_alloc ?_ _)); exact BK119.out)) (below_size (by repeat (first | (with_reducible first | exact HB.out | apply below_alloc | apply pw_below_drewN | apply below_drew1 | refine below_set ?_ GE119.out) | exact HB.out))))
                        have n1_ := Aside0.mk (blk_below (g := gb119) (o := .cells #[.int .u64 a1_0, .int .i64 a1_1] 39 (0, 0)) (by (with_reducible repeat (first | refine blk_drewN ?_ _ | refine blk_drew ?_ | refine blk_alloc ?_ _)); exact BK119.out) hb)
                        have n2_ := Aside0.mk (below_step (by repeat (first | (with_reducible first | exact HB.out | apply below_alloc | apply pw_below_drewN | apply below_drew1 | refine below_set ?_ GE119.out) | exact HB.out)) hb)
                        clear BK119
                        clear HB
                        have HO123 := n0_
                        have BK119 := n1_
                        have HB := n2_
                        clear n0_ n1_ n2_
                        clear hb ho20
                        refine hK.out _ _ ⟨(blk_cell BK119.out 0).trans rfl, (blk_cell BK119.out 1).trans rfl⟩ (fun hHeld => ?_)
                        clear hK K
                        refine norm_ (a' := ?_) ?_ ?_
                        rotate_left
                        · show Act.put _ (some 22) _ = _
                          simp only [Act.put, List.setIfInBounds_toArray, List.set_cons_zero, List.set_cons_succ, i64_w, i32_w]
                          rfl
                        refine two_ (i := 4) (j := 6) (Ni := some 26) (Nj := some 28) #[true, true, true, true, true, true, false, false, true, true, true, false, false] #[true, true, true, true, false, true, true, false, true, true, true, false, false] rfl rfl rfl rfl (two_of HT_.out (by kernel_rfl)) (by decide) (by decide) (fun K hK => ?_) (fun K hK => ?_)
                        · skip
                          refine Kd.R_append_rows_step k39 (w0 := w) w.heap.size (by rfl) (.tmp 22) (.tmp 25) 25 39 (.agg #[(.int .u64 0), (.int .i64 0)]) 16 rfl Tryd.underlying25 info39 rfl (by decide) (by omega) v122 y121 y124 _ _ _ (fun k_ => k_ ≠ gb119) (fun _ => False) rfl rfl ?aO ?aR (fun _ _ h => h) (fun _ h => h.elim) ?aF ?aB ?aS ?aL ?_
                          (case aR => repeat (first | exact (Kd.C_below HR127.out HB.out) | (with_reducible refine Kd.C_alloc ?_ _) | (with_reducible refine Kd.C_drewN ?_ _) | (with_reducible refine Kd.C_drew ?_)))
                          (case aB => exact (by repeat (first | (with_reducible first | exact HB.out | apply below_alloc | apply pw_below_drewN | apply below_drew1 | refine below_set ?_ GE119.out) | exact HB.out)))
                          (case aF => exact (fun k_ hk => Kd.freshB (g := gb119) (o := .cells #[.int .u64 a1_0, .int .i64 a1_1] 39 (0, 0)) (by (with_reducible repeat (first | refine blk_drewN ?_ _ | refine blk_drew ?_ | refine blk_alloc ?_ _)); exact BK119.out) k_ hk))
                          (case aO => exact (by (with_reducible repeat (first | apply Kd.R_alloc | apply Kd.R_drewN | apply Kd.R_drew)); exact Kd.R_mono HO123.out (fun _ hk => hk.2)))
                          (case aS => exact (below_size (by repeat (first | (with_reducible first | exact HB.out | apply below_alloc | apply pw_below_drewN | apply below_drew1 | refine below_set ?_ GE119.out) | exact HB.out))))
                          (case aL => have := LMc10.out; omega)
                          intro v129 w21 ho hb hg hat
                          rw [← Ny128.out] at ho
                          have n0_ := Aside0.mk (blk_grown (g := gb119) (o := .cells #[.int .u64 a1_0, .int .i64 a1_1] 39 (0, 0)) (by (with_reducible repeat (first | refine blk_drewN ?_ _ | refine blk_drew ?_ | refine blk_alloc ?_ _)); exact BK119.out) hg (Kd.R_away HO123.out (fun _ hk => hk.2)))
                          have n1_ := Aside0.mk (hb)
                          have n2_ := Aside0.mk (ho)
                          clear BK119
                          clear HB
                          clear HO123
                          have BK119 := n0_
                          have HB := n1_
                          have HO130 := n2_
                          clear n0_ n1_ n2_
                          clear ho hb hg hat
                          refine hK.out _ _ ⟨(blk_cell BK119.out 0).trans rfl, (blk_cell BK119.out 1).trans rfl⟩ (fun hHeld => ?_)
                          clear hK K
                          refine norm_ (a' := ?_) ?_ ?_
                          rotate_left
                          · show Act.put _ (some 26) _ = _
                            simp only [Act.put, List.setIfInBounds_toArray, List.set_cons_zero, List.set_cons_succ, i64_w, i32_w]
                            rfl
                          refine one_ (i := 6) (N := some 28) #[true, true, true, true, true, true, true, false, true, true, true, false, false] rfl rfl (one_of HT_.out (by kernel_rfl)) (by decide) (fun K hK => ?_)
                          refine Kd.R_lit_step k39 _ 39 ?hg (N := 28) ?hd (xs := ([(⟨a1_0, a1_1⟩ : S39)] : List (S39))) (inner := [.int .u64 a1_0, .int .i64 a1_1]) (ok := fun _ => True) (okp := fun _ => True) ?hr ?hp (fun _ hk => hk) trivial (Below.refl _ _) (Nat.le_refl _) (by simp) ?_; (case hd => rfl); (case hg => rfl); (case hr => first | (go_simp; done) | (go_simp; rfl)); (case hp => exact (Reps.c2 (show Kd.M k39 _ _ _ (⟨a1_0, a1_1⟩ : S39) [.int .u64 a1_0, .int .i64 a1_1] from (k39_mkM _ _ _ (⟨a1_0, a1_1⟩ : S39) )) (Reps.none _ _)))
                          intro v132 w22 ho23 hb hg_ hnew_
                          clear hg_ hnew_
                          (first | rw [← Ny131.out] at ho23 | (simp only [Int.reduceToNat] at ho23; rw [← Ny131.out] at ho23))
                          have n0_ := Aside0.mk (Kd.R_elder' (by (with_reducible repeat (first | apply Kd.R_alloc | apply Kd.R_drewN | apply Kd.R_drew)); exact HO130.out) (Kd.R_base ho23) hb)
                          have n1_ := Aside0.mk (Kd.R_lower (Kd.R_newB (Kd.R_new' ho23 (Kd.R_lt (by (with_reducible repeat (first | apply Kd.R_alloc | apply Kd.R_drewN | apply Kd.R_drew)); exact HO130.out))) (g := gb119) (o := .cells #[.int .u64 a1_0, .int .i64 a1_1] 39 (0, 0)) (by (with_reducible repeat (first | refine blk_drewN ?_ _ | refine blk_drew ?_ | refine blk_alloc ?_ _)); exact BK119.out)) (below_size (by repeat (first | (with_reducible first | exact HB.out | apply below_alloc | apply pw_below_drewN | apply below_drew1 | refine below_set ?_ GE119.out) | exact HB.out))))
                          have n2_ := Aside0.mk (blk_below (g := gb119) (o := .cells #[.int .u64 a1_0, .int .i64 a1_1] 39 (0, 0)) (by (with_reducible repeat (first | refine blk_drewN ?_ _ | refine blk_drew ?_ | refine blk_alloc ?_ _)); exact BK119.out) hb)
                          have n3_ := Aside0.mk (below_step (by repeat (first | (with_reducible first | exact HB.out | apply below_alloc | apply pw_below_drewN | apply below_drew1 | refine below_set ?_ GE119.out) | exact HB.out)) hb)
                          clear HO130
                          clear BK119
                          clear HB
                          have HO130 := n0_
                          have HO133 := n1_
                          have BK119 := n2_
                          have HB := n3_
                          clear n0_ n1_ n2_ n3_
                          clear hb ho23
                          refine hK.out _ _ ⟨(blk_cell BK119.out 0).trans rfl, (blk_cell BK119.out 1).trans rfl⟩ (fun hHeld => ?_)
                          clear hK K
                          refine norm_ (a' := ?_) ?_ ?_
                          rotate_left
                          · show Act.put _ (some 28) _ = _
                            simp only [Act.put, List.setIfInBounds_toArray, List.set_cons_zero, List.set_cons_succ, i64_w, i32_w]
                            rfl
                          exact norm_ (by simp only [putAll, Act.put, List.setIfInBounds_toArray, List.set_cons_zero, List.set_cons_succ]) (hCont (v122, v129, v132) _ ⟨hHeld, (by (with_reducible repeat (first | apply Kd.R_alloc | apply Kd.R_drewN | apply Kd.R_drew)); exact Kd.R_mono HO130.out (fun _ hk => ⟨hk.2, hk.1⟩)), (by (with_reducible repeat (first | apply Kd.R_alloc | apply Kd.R_drewN | apply Kd.R_drew)); exact Kd.R_mono HO133.out (fun _ hk => ⟨hk.1.2, hk.2⟩)), (by (with_reducible repeat (first | refine blk_drewN ?_ _ | refine blk_drew ?_ | refine blk_alloc ?_ _)); exact BK119.out), (by repeat (first | (with_reducible first | exact HB.out | apply below_alloc | apply pw_below_drewN | apply below_drew1 | refine below_set ?_ GE119.out) | exact HB.out))⟩)
                        · skip
                          refine Kd.R_lit_step k39 _ 39 ?hg (N := 28) ?hd (xs := ([(⟨a1_0, a1_1⟩ : S39)] : List (S39))) (inner := [.int .u64 a1_0, .int .i64 a1_1]) (ok := fun _ => True) (okp := fun _ => True) ?hr ?hp (fun _ hk => hk) trivial (Below.refl _ _) (Nat.le_refl _) (by simp) ?_; (case hd => rfl); (case hg => rfl); (case hr => first | (go_simp; done) | (go_simp; rfl)); (case hp => exact (Reps.c2 (show Kd.M k39 _ _ _ (⟨a1_0, a1_1⟩ : S39) [.int .u64 a1_0, .int .i64 a1_1] from (k39_mkM _ _ _ (⟨a1_0, a1_1⟩ : S39) )) (Reps.none _ _)))
                          intro v132 w21 ho22 hb hg_ hnew_
                          clear hg_ hnew_
                          (first | rw [← Ny131.out] at ho22 | (simp only [Int.reduceToNat] at ho22; rw [← Ny131.out] at ho22))
                          have n0_ := Aside0.mk (Kd.R_elder' (by (with_reducible repeat (first | apply Kd.R_alloc | apply Kd.R_drewN | apply Kd.R_drew)); exact HO123.out) (Kd.R_base ho22) hb)
                          have n1_ := Aside0.mk (Kd.R_lower (Kd.R_newB (Kd.R_new' ho22 (Kd.R_lt (by (with_reducible repeat (first | apply Kd.R_alloc | apply Kd.R_drewN | apply Kd.R_drew)); exact HO123.out))) (g := gb119) (o := .cells #[.int .u64 a1_0, .int .i64 a1_1] 39 (0, 0)) (by (with_reducible repeat (first | refine blk_drewN ?_ _ | refine blk_drew ?_ | refine blk_alloc ?_ _)); exact BK119.out)) (below_size (by repeat (first | (with_reducible first | exact HB.out | apply below_alloc | apply pw_below_drewN | apply below_drew1 | refine below_set ?_ GE119.out) | exact HB.out))))
                          have n2_ := Aside0.mk (blk_below (g := gb119) (o := .cells #[.int .u64 a1_0, .int .i64 a1_1] 39 (0, 0)) (by (with_reducible repeat (first | refine blk_drewN ?_ _ | refine blk_drew ?_ | refine blk_alloc ?_ _)); exact BK119.out) hb)
                          have n3_ := Aside0.mk (below_step (by repeat (first | (with_reducible first | exact HB.out | apply below_alloc | apply pw_below_drewN | apply below_drew1 | refine below_set ?_ GE119.out) | exact HB.out)) hb)
                          clear HO123
                          clear BK119
                          clear HB
                          have HO123 := n0_
                          have HO133 := n1_
                          have BK119 := n2_
                          have HB := n3_
                          clear n0_ n1_ n2_ n3_
                          clear hb ho22
                          refine hK.out _ _ ⟨(blk_cell BK119.out 0).trans rfl, (blk_cell BK119.out 1).trans rfl⟩ (fun hHeld => ?_)
                          clear hK K
                          refine norm_ (a' := ?_) ?_ ?_
                          rotate_left
                          · show Act.put _ (some 28) _ = _
                            simp only [Act.put, List.setIfInBounds_toArray, List.set_cons_zero, List.set_cons_succ, i64_w, i32_w]
                            rfl
                          refine one_ (i := 4) (N := some 26) #[true, true, true, true, true, true, true, false, true, true, true, false, false] rfl rfl (one_of HT_.out (by kernel_rfl)) (by decide) (fun K hK => ?_)
                          refine Kd.R_append_rows_step k39 (w0 := w) w.heap.size (by rfl) (.tmp 22) (.tmp 25) 25 39 (.agg #[(.int .u64 0), (.int .i64 0)]) 16 rfl Tryd.underlying25 info39 rfl (by decide) (by omega) v122 y121 y124 _ _ _ (fun k_ => some k_ ≠ (v132 : Value).ownBlock ∧ k_ ≠ gb119) (fun _ => False) rfl rfl ?aO ?aR (fun _ _ h => h) (fun _ h => h.elim) ?aF ?aB ?aS ?aL ?_
                          (case aR => repeat (first | exact (Kd.C_below HR127.out HB.out) | (with_reducible refine Kd.C_alloc ?_ _) | (with_reducible refine Kd.C_drewN ?_ _) | (with_reducible refine Kd.C_drew ?_)))
                          (case aB => exact (by repeat (first | (with_reducible first | exact HB.out | apply below_alloc | apply pw_below_drewN | apply below_drew1 | refine below_set ?_ GE119.out) | exact HB.out)))
                          (case aF => exact (fun k_ hk => ⟨Kd.fresh' (Kd.R_lt (by (with_reducible repeat (first | apply Kd.R_alloc | apply Kd.R_drewN | apply Kd.R_drew)); exact HO133.out)) k_ hk, Kd.freshB (g := gb119) (o := .cells #[.int .u64 a1_0, .int .i64 a1_1] 39 (0, 0)) (by (with_reducible repeat (first | refine blk_drewN ?_ _ | refine blk_drew ?_ | refine blk_alloc ?_ _)); exact BK119.out) k_ hk⟩))
                          (case aO => exact (by (with_reducible repeat (first | apply Kd.R_alloc | apply Kd.R_drewN | apply Kd.R_drew)); exact Kd.R_mono HO123.out (fun _ hk => ⟨hk.2, hk.1.2⟩)))
                          (case aS => exact (below_size (by repeat (first | (with_reducible first | exact HB.out | apply below_alloc | apply pw_below_drewN | apply below_drew1 | refine below_set ?_ GE119.out) | exact HB.out))))
                          (case aL => have := LMc10.out; omega)
                          intro v129 w23 ho hb hg hat
                          rw [← Ny128.out] at ho
                          have n0_ := Aside0.mk (blk_grown (g := gb119) (o := .cells #[.int .u64 a1_0, .int .i64 a1_1] 39 (0, 0)) (by (with_reducible repeat (first | refine blk_drewN ?_ _ | refine blk_drew ?_ | refine blk_alloc ?_ _)); exact BK119.out) hg (Kd.R_away HO123.out (fun _ hk => hk.1.2)))
                          have n1_ := Aside0.mk (Kd.R_after (ok := (fun k_ => k_ ≠ gb119)) (by (with_reducible repeat (first | apply Kd.R_alloc | apply Kd.R_drewN | apply Kd.R_drew)); exact Kd.R_mono HO133.out (fun _ hk => ⟨hk.2, hk.1.2⟩)) hg hat)
                          have n2_ := Aside0.mk (hb)
                          have n3_ := Aside0.mk (ho)
                          clear BK119
                          clear HO133
                          clear HB
                          clear HO123
                          have BK119 := n0_
                          have HO133 := n1_
                          have HB := n2_
                          have HO130 := n3_
                          clear n0_ n1_ n2_ n3_
                          clear ho hb hg hat
                          refine hK.out _ _ ⟨(blk_cell BK119.out 0).trans rfl, (blk_cell BK119.out 1).trans rfl⟩ (fun hHeld => ?_)
                          clear hK K
                          refine norm_ (a' := ?_) ?_ ?_
                          rotate_left
                          · show Act.put _ (some 26) _ = _
                            simp only [Act.put, List.setIfInBounds_toArray, List.set_cons_zero, List.set_cons_succ, i64_w, i32_w]
                            rfl
                          exact norm_ (by simp only [putAll, Act.put, List.setIfInBounds_toArray, List.set_cons_zero, List.set_cons_succ]) (hCont (v122, v129, v132) _ ⟨hHeld, (by (with_reducible repeat (first | apply Kd.R_alloc | apply Kd.R_drewN | apply Kd.R_drew)); exact HO130.out), (by (with_reducible repeat (first | apply Kd.R_alloc | apply Kd.R_drewN | apply Kd.R_drew)); exact Kd.R_mono HO133.out (fun _ hk => ⟨hk.2, hk.1⟩)), (by (with_reducible repeat (first | refine blk_drewN ?_ _ | refine blk_drew ?_ | refine blk_alloc ?_ _)); exact BK119.out), (by repeat (first | (with_reducible first | exact HB.out | apply below_alloc | apply pw_below_drewN | apply below_drew1 | refine below_set ?_ GE119.out) | exact HB.out))⟩)
                      · skip
                        refine Kd.R_lit_step k39 _ 39 ?hg (N := 28) ?hd (xs := ([(⟨a1_0, a1_1⟩ : S39)] : List (S39))) (inner := [.int .u64 a1_0, .int .i64 a1_1]) (ok := fun _ => True) (okp := fun _ => True) ?hr ?hp (fun _ hk => hk) trivial (Below.refl _ _) (Nat.le_refl _) (by simp) ?_; (case hd => rfl); (case hg => rfl); (case hr => first | (go_simp; done) | (go_simp; rfl)); (case hp => exact (Reps.c2 (show Kd.M k39 _ _ _ (⟨a1_0, a1_1⟩ : S39) [.int .u64 a1_0, .int .i64 a1_1] from (k39_mkM _ _ _ (⟨a1_0, a1_1⟩ : S39) )) (Reps.none _ _)))
                        intro v132 w19 ho20 hb hg_ hnew_
                        clear hg_ hnew_
                        (first | rw [← Ny131.out] at ho20 | (simp only [Int.reduceToNat] at ho20; rw [← Ny131.out] at ho20))
                        have n0_ := Aside0.mk (Kd.R_lower (Kd.R_newB ho20 (g := gb119) (o := .cells #[.int .u64 a1_0, .int .i64 a1_1] 39 (0, 0)) (by (with_reducible repeat (first | refine blk_drewN ?_ _ | refine blk_drew ?_ | refine blk_alloc ?_ _)); exact BK119.out)) (below_size (by repeat (first | (with_reducible first | exact HB.out | apply below_alloc | apply pw_below_drewN | apply below_drew1 | refine below_set ?_ GE119.out) | exact HB.out))))
                        have n1_ := Aside0.mk (blk_below (g := gb119) (o := .cells #[.int .u64 a1_0, .int .i64 a1_1] 39 (0, 0)) (by (with_reducible repeat (first | refine blk_drewN ?_ _ | refine blk_drew ?_ | refine blk_alloc ?_ _)); exact BK119.out) hb)
                        have n2_ := Aside0.mk (below_step (by repeat (first | (with_reducible first | exact HB.out | apply below_alloc | apply pw_below_drewN | apply below_drew1 | refine below_set ?_ GE119.out) | exact HB.out)) hb)
                        clear BK119
                        clear HB
                        have HO133 := n0_
                        have BK119 := n1_
                        have HB := n2_
                        clear n0_ n1_ n2_
                        clear hb ho20
                        refine hK.out _ _ ⟨(blk_cell BK119.out 0).trans rfl, (blk_cell BK119.out 1).trans rfl⟩ (fun hHeld => ?_)
                        clear hK K
                        refine norm_ (a' := ?_) ?_ ?_
                        rotate_left
                        · show Act.put _ (some 28) _ = _
                          simp only [Act.put, List.setIfInBounds_toArray, List.set_cons_zero, List.set_cons_succ, i64_w, i32_w]
                          rfl
                        refine one_ (i := 0) (N := some 22) #[true, true, true, true, false, true, true, false, true, true, true, false, false] rfl rfl (one_of HT_.out (by kernel_rfl)) (by decide) (fun K hK => ?_)
                        refine Kd.R_lit_step k39 _ 39 ?hg (N := 22) ?hd (xs := ([] : List (S39))) (inner := []) (ok := fun _ => True) (okp := fun _ => True) ?hr ?hp (fun _ hk => hk) trivial (Below.refl _ _) (Nat.le_refl _) (by simp) ?_; (case hd => rfl); (case hg => rfl); (case hr => first | (go_simp; done) | (go_simp; rfl)); (case hp => exact (Reps.none _ _))
                        intro v122 w21 ho22 hb hg_ hnew_
                        clear hg_ hnew_
                        (first | rw [← Ny121.out] at ho22 | (simp only [Int.reduceToNat] at ho22; rw [← Ny121.out] at ho22))
                        have n0_ := Aside0.mk (Kd.R_elder' (by (with_reducible repeat (first | apply Kd.R_alloc | apply Kd.R_drewN | apply Kd.R_drew)); exact HO133.out) (Kd.R_base ho22) hb)
                        have n1_ := Aside0.mk (Kd.R_lower (Kd.R_newB (Kd.R_new' ho22 (Kd.R_lt (by (with_reducible repeat (first | apply Kd.R_alloc | apply Kd.R_drewN | apply Kd.R_drew)); exact HO133.out))) (g := gb119) (o := .cells #[.int .u64 a1_0, .int .i64 a1_1] 39 (0, 0)) (by (with_reducible repeat (first | refine blk_drewN ?_ _ | refine blk_drew ?_ | refine blk_alloc ?_ _)); exact BK119.out)) (below_size (by repeat (first | (with_reducible first | exact HB.out | apply below_alloc | apply pw_below_drewN | apply below_drew1 | refine below_set ?_ GE119.out) | exact HB.out))))
                        have n2_ := Aside0.mk (blk_below (g := gb119) (o := .cells #[.int .u64 a1_0, .int .i64 a1_1] 39 (0, 0)) (by (with_reducible repeat (first | refine blk_drewN ?_ _ | refine blk_drew ?_ | refine blk_alloc ?_ _)); exact BK119.out) hb)
                        have n3_ := Aside0.mk (below_step (by repeat (first | (with_reducible first | exact HB.out | apply below_alloc | apply pw_below_drewN | apply below_drew1 | refine below_set ?_ GE119.out) | exact HB.out)) hb)
                        clear HO133
                        clear BK119
                        clear HB
                        have HO133 := n0_
                        have HO123 := n1_
                        have BK119 := n2_
                        have HB := n3_
                        clear n0_ n1_ n2_ n3_
                        clear hb ho22
                        refine hK.out _ _ ⟨(blk_cell BK119.out 0).trans rfl, (blk_cell BK119.out 1).trans rfl⟩ (fun hHeld => ?_)
                        clear hK K
                        refine norm_ (a' := ?_) ?_ ?_
                        rotate_left
                        · show Act.put _ (some 22) _ = _
                          simp only [Act.put, List.setIfInBounds_toArray, List.set_cons_zero, List.set_cons_succ, i64_w, i32_w]
                          rfl
                        refine one_ (i := 4) (N := some 26) #[true, true, true, true, true, true, true, false, true, true, true, false, false] rfl rfl (one_of HT_.out (by kernel_rfl)) (by decide) (fun K hK => ?_)
                        refine Kd.R_append_rows_step k39 (w0 := w) w.heap.size (by rfl) (.tmp 22) (.tmp 25) 25 39 (.agg #[(.int .u64 0), (.int .i64 0)]) 16 rfl Tryd.underlying25 info39 rfl (by decide) (by omega) v122 y121 y124 _ _ _ (fun k_ => some k_ ≠ (v132 : Value).ownBlock ∧ k_ ≠ gb119) (fun _ => False) rfl rfl ?aO ?aR (fun _ _ h => h) (fun _ h => h.elim) ?aF ?aB ?aS ?aL ?_
                        (case aR => repeat (first | exact (Kd.C_below HR127.out HB.out) | (with_reducible refine Kd.C_alloc ?_ _) | (with_reducible refine Kd.C_drewN ?_ _) | (with_reducible refine Kd.C_drew ?_)))
                        (case aB => exact (by repeat (first | (with_reducible first | exact HB.out | apply below_alloc | apply pw_below_drewN | apply below_drew1 | refine below_set ?_ GE119.out) | exact HB.out)))
                        (case aF => exact (fun k_ hk => ⟨Kd.fresh' (Kd.R_lt (by (with_reducible repeat (first | apply Kd.R_alloc | apply Kd.R_drewN | apply Kd.R_drew)); exact HO133.out)) k_ hk, Kd.freshB (g := gb119) (o := .cells #[.int .u64 a1_0, .int .i64 a1_1] 39 (0, 0)) (by (with_reducible repeat (first | refine blk_drewN ?_ _ | refine blk_drew ?_ | refine blk_alloc ?_ _)); exact BK119.out) k_ hk⟩))
                        (case aO => exact (by (with_reducible repeat (first | apply Kd.R_alloc | apply Kd.R_drewN | apply Kd.R_drew)); exact Kd.R_mono HO123.out (fun _ hk => ⟨hk.1.2, hk.2⟩)))
                        (case aS => exact (below_size (by repeat (first | (with_reducible first | exact HB.out | apply below_alloc | apply pw_below_drewN | apply below_drew1 | refine below_set ?_ GE119.out) | exact HB.out))))
                        (case aL => have := LMc10.out; omega)
                        intro v129 w23 ho hb hg hat
                        rw [← Ny128.out] at ho
                        have n0_ := Aside0.mk (blk_grown (g := gb119) (o := .cells #[.int .u64 a1_0, .int .i64 a1_1] 39 (0, 0)) (by (with_reducible repeat (first | refine blk_drewN ?_ _ | refine blk_drew ?_ | refine blk_alloc ?_ _)); exact BK119.out) hg (Kd.R_away HO123.out (fun _ hk => hk.2)))
                        have n1_ := Aside0.mk (Kd.R_after (ok := (fun k_ => k_ ≠ gb119)) (by (with_reducible repeat (first | apply Kd.R_alloc | apply Kd.R_drewN | apply Kd.R_drew)); exact Kd.R_mono HO133.out (fun _ hk => ⟨hk.1.2, hk.2⟩)) hg hat)
                        have n2_ := Aside0.mk (hb)
                        have n3_ := Aside0.mk (ho)
                        clear BK119
                        clear HO133
                        clear HB
                        clear HO123
                        have BK119 := n0_
                        have HO133 := n1_
                        have HB := n2_
                        have HO130 := n3_
                        clear n0_ n1_ n2_ n3_
                        clear ho hb hg hat
                        refine hK.out _ _ ⟨(blk_cell BK119.out 0).trans rfl, (blk_cell BK119.out 1).trans rfl⟩ (fun hHeld => ?_)
                        clear hK K
                        refine norm_ (a' := ?_) ?_ ?_
                        rotate_left
                        · show Act.put _ (some 26) _ = _
                          simp only [Act.put, List.setIfInBounds_toArray, List.set_cons_zero, List.set_cons_succ, i64_w, i32_w]
                          rfl
                        exact norm_ (by simp only [putAll, Act.put, List.setIfInBounds_toArray, List.set_cons_zero, List.set_cons_succ]) (hCont (v122, v129, v132) _ ⟨hHeld, (by (with_reducible repeat (first | apply Kd.R_alloc | apply Kd.R_drewN | apply Kd.R_drew)); exact HO130.out), (by (with_reducible repeat (first | apply Kd.R_alloc | apply Kd.R_drewN | apply Kd.R_drew)); exact Kd.R_mono HO133.out (fun _ hk => ⟨hk.2, hk.1⟩)), (by (with_reducible repeat (first | refine blk_drewN ?_ _ | refine blk_drew ?_ | refine blk_alloc ?_ _)); exact BK119.out), (by repeat (first | (with_reducible first | exact HB.out | apply below_alloc | apply pw_below_drewN | apply below_drew1 | refine below_set ?_ GE119.out) | exact HB.out))⟩)
                    rintro ⟨v122, v129, v132⟩ w24 ⟨hS_, h0_, h1_, h2_, h3_⟩
                    have n0_ : Aside0 (Kd.R k39 39 w24 w.heap.size (fun k_ => some k_ ≠ (v132 : Value).ownBlock ∧ k_ ≠ gb119) v129 y128) := ⟨h0_⟩
                    have n1_ : Aside0 (Kd.R k39 39 w24 w.heap.size (fun k_ => some k_ ≠ (v129 : Value).ownBlock ∧ k_ ≠ gb119) v132 y131) := ⟨h1_⟩
                    have n2_ : Aside0 (w24.heap[gb119]? = some (.cells #[.int .u64 a1_0, .int .i64 a1_1] 39 (0, 0))) := ⟨h2_⟩
                    have n3_ : Aside0 (Below w.heap.size w w24) := ⟨h3_⟩
                    clear BK119
                    clear HB
                    clear h0_ h1_ h2_ h3_
                    have HO130 := n0_
                    have HO133 := n1_
                    have BK119 := n2_
                    have HB := n3_
                    clear n0_ n1_ n2_ n3_
                    have hHeld : w24.cell? ⟨gb119, 0, none⟩ = some (.int .u64 a1_0) ∧ w24.cell? ⟨gb119, 1, none⟩ = some (.int .i64 a1_1) := hS_
                    obtain ⟨Ao26, co26, eo26⟩ := Kd.R_slice HO133.out
                    (first | subst eo26 | (injection eo26 with f1_ f2_ f3_; have f4_ := f1_.symm; have f5_ := f3_.symm; clear f1_ f2_ f3_; subst f4_; subst f5_))
                    refine norm_ (a' := ?_) ?_ ?_
                    rotate_left
                    · simp only [putAll, Act.put, List.setIfInBounds_toArray, List.set_cons_zero, List.set_cons_succ]
                      rfl
                    refine one_ (i := 7) (N := some 29) #[true, true, true, true, true, true, true, true, true, true, true, false, false] rfl rfl (one_of HT_.out (by kernel_rfl)) (by decide) (fun K hK => ?_)
                    refine Kd.R_append_rows_step k39 (w0 := w) w.heap.size (by rfl) (.tmp 26) (.tmp 28) 25 39 (.agg #[(.int .u64 0), (.int .i64 0)]) 16 rfl Tryd.underlying25 info39 rfl (by decide) (by omega) v129 y128 y131 _ _ _ (fun k_ => some k_ ≠ (.slice Ao26 y131.length co26 : Value).ownBlock ∧ k_ ≠ gb119) (fun _ => False) rfl rfl ?aO ?aR (fun _ _ h => h) (fun _ h => h.elim) ?aF ?aB ?aS ?aL ?_
                    (case aR => repeat (first | exact (Kd.R_reads' HO133.out).2.2 | (with_reducible refine Kd.C_alloc ?_ _) | (with_reducible refine Kd.C_drewN ?_ _) | (with_reducible refine Kd.C_drew ?_)))
                    (case aB => exact (by repeat (first | (with_reducible first | exact HB.out | apply below_alloc | apply pw_below_drewN | apply below_drew1 | refine below_set ?_ GE119.out) | exact HB.out)))
                    (case aF => exact (fun k_ hk => ⟨Kd.fresh' (Kd.R_lt (by (with_reducible repeat (first | apply Kd.R_alloc | apply Kd.R_drewN | apply Kd.R_drew)); exact HO133.out)) k_ hk, Kd.freshB (g := gb119) (o := .cells #[.int .u64 a1_0, .int .i64 a1_1] 39 (0, 0)) (by (with_reducible repeat (first | refine blk_drewN ?_ _ | refine blk_drew ?_ | refine blk_alloc ?_ _)); exact BK119.out) k_ hk⟩))
                    (case aO => exact (by (with_reducible repeat (first | apply Kd.R_alloc | apply Kd.R_drewN | apply Kd.R_drew)); exact HO130.out))
                    (case aS => exact (below_size (by repeat (first | (with_reducible first | exact HB.out | apply below_alloc | apply pw_below_drewN | apply below_drew1 | refine below_set ?_ GE119.out) | exact HB.out))))
                    (case aL => have := LMc11.out; omega)
                    intro v135 w25 ho hb hg hat
                    rw [← Ny134.out] at ho
                    have n0_ := Aside0.mk (blk_grown (g := gb119) (o := .cells #[.int .u64 a1_0, .int .i64 a1_1] 39 (0, 0)) (by (with_reducible repeat (first | refine blk_drewN ?_ _ | refine blk_drew ?_ | refine blk_alloc ?_ _)); exact BK119.out) hg (Kd.R_away HO130.out (fun _ hk => hk.2)))
                    have n1_ := Aside0.mk (Kd.R_after (ok := (fun k_ => k_ ≠ gb119)) (by (with_reducible repeat (first | apply Kd.R_alloc | apply Kd.R_drewN | apply Kd.R_drew)); exact Kd.R_mono HO133.out (fun _ hk => ⟨hk.2, hk.1⟩)) hg hat)
                    have n2_ := Aside0.mk (hb)
                    have n3_ := Aside0.mk (ho)
                    clear BK119
                    clear HO133
                    clear HB
                    clear HO130
                    have BK119 := n0_
                    have HO133 := n1_
                    have HB := n2_
                    have HO136 := n3_
                    clear n0_ n1_ n2_ n3_
                    clear ho hb hg hat
                    refine hK.out _ _ ⟨(blk_cell BK119.out 0).trans rfl, (blk_cell BK119.out 1).trans rfl⟩ (fun hHeld => ?_)
                    clear hK K
                    refine norm_ (a' := ?_) ?_ ?_
                    rotate_left
                    · show Act.put _ (some 29) _ = _
                      simp only [Act.put, List.setIfInBounds_toArray, List.set_cons_zero, List.set_cons_succ, i64_w, i32_w]
                      rfl
                    refine one_ (i := 11) (N := some 33) #[true, true, true, true, true, true, true, true, true, true, true, true, false] rfl rfl (one_of HT_.out (by kernel_rfl)) (by decide) (fun K hK => ?_)
                    refine Kd.R_append_rows_step k39 (w0 := w) w.heap.size (by rfl) (.tmp 29) (.tmp 32) 25 39 (.agg #[(.int .u64 0), (.int .i64 0)]) 16 rfl Tryd.underlying25 info39 rfl (by decide) (by omega) v135 y134 y137 _ _ _ (fun k_ => some k_ ≠ (.slice Ao26 y131.length co26 : Value).ownBlock ∧ k_ ≠ gb119) (fun _ => False) rfl rfl ?aO ?aR (fun _ _ h => h) (fun _ h => h.elim) ?aF ?aB ?aS ?aL ?_
                    (case aR => repeat (first | exact (Kd.C_below HR140.out HB.out) | (with_reducible refine Kd.C_alloc ?_ _) | (with_reducible refine Kd.C_drewN ?_ _) | (with_reducible refine Kd.C_drew ?_)))
                    (case aB => exact (by repeat (first | (with_reducible first | exact HB.out | apply below_alloc | apply pw_below_drewN | apply below_drew1 | refine below_set ?_ GE119.out) | exact HB.out)))
                    (case aF => exact (fun k_ hk => ⟨Kd.fresh' (Kd.R_lt (by (with_reducible repeat (first | apply Kd.R_alloc | apply Kd.R_drewN | apply Kd.R_drew)); exact HO133.out)) k_ hk, Kd.freshB (g := gb119) (o := .cells #[.int .u64 a1_0, .int .i64 a1_1] 39 (0, 0)) (by (with_reducible repeat (first | refine blk_drewN ?_ _ | refine blk_drew ?_ | refine blk_alloc ?_ _)); exact BK119.out) k_ hk⟩))
                    (case aO => exact (by (with_reducible repeat (first | apply Kd.R_alloc | apply Kd.R_drewN | apply Kd.R_drew)); exact HO136.out))
                    (case aS => exact (below_size (by repeat (first | (with_reducible first | exact HB.out | apply below_alloc | apply pw_below_drewN | apply below_drew1 | refine below_set ?_ GE119.out) | exact HB.out))))
                    (case aL => have := LMc14.out; omega)
                    intro v142 w27 ho hb hg hat
                    rw [← Ny141.out] at ho
                    have n0_ := Aside0.mk (blk_grown (g := gb119) (o := .cells #[.int .u64 a1_0, .int .i64 a1_1] 39 (0, 0)) (by (with_reducible repeat (first | refine blk_drewN ?_ _ | refine blk_drew ?_ | refine blk_alloc ?_ _)); exact BK119.out) hg (Kd.R_away HO136.out (fun _ hk => hk.2)))
                    have n1_ := Aside0.mk (Kd.R_after (ok := (fun k_ => k_ ≠ gb119)) (by (with_reducible repeat (first | apply Kd.R_alloc | apply Kd.R_drewN | apply Kd.R_drew)); exact HO133.out) hg hat)
                    have n2_ := Aside0.mk (hb)
                    have n3_ := Aside0.mk (ho)
                    clear BK119
                    clear HO133
                    clear HB
                    clear HO136
                    have BK119 := n0_
                    have HO133 := n1_
                    have HB := n2_
                    have HO143 := n3_
                    clear n0_ n1_ n2_ n3_
                    clear ho hb hg hat
                    refine hK.out _ _ ⟨(blk_cell BK119.out 0).trans rfl, (blk_cell BK119.out 1).trans rfl⟩ (fun hHeld => ?_)
                    clear hK K
                    refine norm_ (a' := ?_) ?_ ?_
                    rotate_left
                    · show Act.put _ (some 33) _ = _
                      simp only [Act.put, List.setIfInBounds_toArray, List.set_cons_zero, List.set_cons_succ, i64_w, i32_w]
                      rfl
                    refine pure_ (i := 12) (N := some 4) (v := ?_) (a' := ?_) #[true, true, true, true, true, true, true, true, true, true, true, true, true] rfl rfl (any_of HT_.out (by kernel_rfl)) (fun _ _ _ h => h) (Or.inl ⟨by rfl, ?_⟩) ?_ ?_
                    rotate_left
                    · intro w'
                      go_simp
                      with_reducible rfl
                    rotate_left
                    · simp only [Act.put, List.setIfInBounds_toArray, List.set_cons_zero, List.set_cons_succ, i64_w, i32_w]
                      rfl
                    refine done_ (done_of HT_.out (by kernel_rfl)) ?_
                    try go_wp2
                    go_ret
                    exact ⟨_, by first | rfl | (simp [errW_none, errW_some] <;> rfl) | (simp [*, errW_none, errW_some] <;> rfl), by (with_reducible repeat (first | apply Kd.R_alloc | apply Kd.R_drewN | apply Kd.R_drew)); exact Kd.R_mono HO143.out (fun _ hk => trivial), by repeat (first | (with_reducible first | exact HB.out | apply below_alloc | apply pw_below_drewN | apply below_drew1 | refine below_set ?_ GE119.out) | exact HB.out)⟩
                  · rw [if_neg c14] at H
                    exact absurd H (by simp)
                · rw [if_neg c11] at H
                  exact absurd H (by simp)
              · rw [if_neg c10] at H
                exact absurd H (by simp)
            · rw [if_neg c9] at H
              exact absurd H (by simp)
        · rw [if_neg c5] at H
          exact absurd H (by simp)
      · rw [if_neg c4] at H
        have c4b0 : decide (x5_1 < (l0.length : Int)) = false := decide_eq_false c4
        clear c4
        obtain ⟨y144, hy144⟩ : ∃ y_ : List (S39), y_ = (([] : List (S39))) := ⟨_, rfl⟩
        replace H : (if 0 ≤ x5_1 then (if x5_1 ≤ (l0.length : Int) then ((some (l0.take (x5_1 : Int).toNat : List (S39))).bind fun y147 => (if y144.length + y147.length < 8796093022208 then ((some (y144 ++ y147 : List (S39))).bind fun y151 => ((some (([(⟨a1_0, a1_1⟩ : S39)] : List (S39)) : List (S39))).bind fun y154 => (if y151.length + y154.length < 8796093022208 then ((some (y151 ++ y154 : List (S39))).bind fun y157 => ((some (l0.drop (x5_1 : Int).toNat : List (S39))).bind fun y160 => (if y157.length + y160.length < 8796093022208 then (some (y157 ++ y160)) else (none)))) else (none)))) else (none))) else (none)) else (none)) = some r := by first | (rw [hy144]; with_reducible exact H) | (have H2_ := (Option.bind_some _ _).symm.trans H; rw [hy144]; with_reducible exact H2_) | (have H2_ := (Option.bind_some _ _).symm.trans H; with_reducible exact H2_) | with_reducible exact H | (rw [hy144]; exact H) | exact H
        have Ny144 := Aside0.mk hy144
        clear hy144
        by_cases c28 : 0 ≤ x5_1
        · rw [if_pos c28] at H
          have c28b0 := eq_true c28
          have c28b1 : decide (0 ≤ x5_1) = true := decide_eq_true c28
          clear c28
          by_cases c29 : x5_1 ≤ (l0.length : Int)
          · rw [if_pos c29] at H
            have c29b0 := eq_true c29
            have c29b1 : decide (x5_1 ≤ (l0.length : Int)) = true := decide_eq_true c29
            clear c29
            obtain ⟨y147, hy147⟩ : ∃ y_ : List (S39), y_ = (l0.take (x5_1 : Int).toNat) := ⟨_, rfl⟩
            replace H : (if y144.length + y147.length < 8796093022208 then ((some (y144 ++ y147 : List (S39))).bind fun y151 => ((some (([(⟨a1_0, a1_1⟩ : S39)] : List (S39)) : List (S39))).bind fun y154 => (if y151.length + y154.length < 8796093022208 then ((some (y151 ++ y154 : List (S39))).bind fun y157 => ((some (l0.drop (x5_1 : Int).toNat : List (S39))).bind fun y160 => (if y157.length + y160.length < 8796093022208 then (some (y157 ++ y160)) else (none)))) else (none)))) else (none)) = some r := by first | (rw [hy147]; with_reducible exact H) | (have H2_ := (Option.bind_some _ _).symm.trans H; rw [hy147]; with_reducible exact H2_) | (have H2_ := (Option.bind_some _ _).symm.trans H; with_reducible exact H2_) | with_reducible exact H | (rw [hy147]; exact H) | exact H
            have Ny147 := Aside0.mk hy147
            clear hy147
            by_cases c30 : y144.length + y147.length < 8796093022208
            · rw [if_pos c30] at H
              have LMc30 := Aside0.mk c30
              clear c30
              obtain ⟨y151, hy151⟩ : ∃ y_ : List (S39), y_ = (y144 ++ y147) := ⟨_, rfl⟩
              replace H : ((some (([(⟨a1_0, a1_1⟩ : S39)] : List (S39)) : List (S39))).bind fun y154 => (if y151.length + y154.length < 8796093022208 then ((some (y151 ++ y154 : List (S39))).bind fun y157 => ((some (l0.drop (x5_1 : Int).toNat : List (S39))).bind fun y160 => (if y157.length + y160.length < 8796093022208 then (some (y157 ++ y160)) else (none)))) else (none))) = some r := by first | (rw [hy151]; with_reducible exact H) | (have H2_ := (Option.bind_some _ _).symm.trans H; rw [hy151]; with_reducible exact H2_) | (have H2_ := (Option.bind_some _ _).symm.trans H; with_reducible exact H2_) | with_reducible exact H | (rw [hy151]; exact H) | exact H
              have Ny151 := Aside0.mk hy151
              clear hy151
              obtain ⟨y154, hy154⟩ : ∃ y_ : List (S39), y_ = (([(⟨a1_0, a1_1⟩ : S39)] : List (S39))) := ⟨_, rfl⟩
              replace H : (if y151.length + y154.length < 8796093022208 then ((some (y151 ++ y154 : List (S39))).bind fun y157 => ((some (l0.drop (x5_1 : Int).toNat : List (S39))).bind fun y160 => (if y157.length + y160.length < 8796093022208 then (some (y157 ++ y160)) else (none)))) else (none)) = some r := by first | (rw [hy154]; with_reducible exact H) | (have H2_ := (Option.bind_some _ _).symm.trans H; rw [hy154]; with_reducible exact H2_) | (have H2_ := (Option.bind_some _ _).symm.trans H; with_reducible exact H2_) | with_reducible exact H | (rw [hy154]; exact H) | exact H
              have Ny154 := Aside0.mk hy154
              clear hy154
              by_cases c31 : y151.length + y154.length < 8796093022208
              · rw [if_pos c31] at H
                have LMc31 := Aside0.mk c31
                clear c31
                obtain ⟨y157, hy157⟩ : ∃ y_ : List (S39), y_ = (y151 ++ y154) := ⟨_, rfl⟩
                replace H : ((some (l0.drop (x5_1 : Int).toNat : List (S39))).bind fun y160 => (if y157.length + y160.length < 8796093022208 then (some (y157 ++ y160)) else (none))) = some r := by first | (rw [hy157]; with_reducible exact H) | (have H2_ := (Option.bind_some _ _).symm.trans H; rw [hy157]; with_reducible exact H2_) | (have H2_ := (Option.bind_some _ _).symm.trans H; with_reducible exact H2_) | with_reducible exact H | (rw [hy157]; exact H) | exact H
                have Ny157 := Aside0.mk hy157
                clear hy157
                have c32b0 := eq_true (of_decide_eq_true (by first | (with_reducible assumption) | assumption) : 0 ≤ x5_1)
                have c33b0 := eq_true (of_decide_eq_true (by first | (with_reducible assumption) | assumption) : x5_1 ≤ (l0.length : Int))
                obtain ⟨y160, hy160⟩ : ∃ y_ : List (S39), y_ = (l0.drop (x5_1 : Int).toNat) := ⟨_, rfl⟩
                replace H : (if y157.length + y160.length < 8796093022208 then (some (y157 ++ y160)) else (none)) = some r := by first | (rw [hy160]; with_reducible exact H) | (have H2_ := (Option.bind_some _ _).symm.trans H; rw [hy160]; with_reducible exact H2_) | (have H2_ := (Option.bind_some _ _).symm.trans H; with_reducible exact H2_) | with_reducible exact H | (rw [hy160]; exact H) | exact H
                have Ny160 := Aside0.mk hy160
                clear hy160
                by_cases c34 : y157.length + y160.length < 8796093022208
                · rw [if_pos c34] at H
                  have LMc34 := Aside0.mk c34
                  clear c34
                  obtain ⟨y164, hy164⟩ : ∃ y_ : List (S39), y_ = (y157 ++ y160) := ⟨_, rfl⟩
                  replace H : (some y164) = some r := by first | (rw [hy164]; with_reducible exact H) | (have H2_ := (Option.bind_some _ _).symm.trans H; rw [hy164]; with_reducible exact H2_) | (have H2_ := (Option.bind_some _ _).symm.trans H; with_reducible exact H2_) | with_reducible exact H | (rw [hy164]; exact H) | exact H
                  have Ny164 := Aside0.mk hy164
                  clear hy164
                  obtain rfl := Option.some.inj H
                  try go_wp2
                  have n0_ := Aside0.mk (blk_drew BK119.out)
                  have n1_ := Aside0.mk (below_drew1 HB.out)
                  clear BK119
                  clear HB
                  have BK119 := n0_
                  have HB := n1_
                  clear n0_ n1_
                  refine start_ (n := 14) (S := fun w' => True) (ds := []) #[false, false, false, false, false, false, false, false, false, false, false, false, false, false] (by kernel_rfl) rfl rfl trivial (fun hHeld => ?_); refine with_tabW spec_put.tab2 spec_put.bits2 (fun HT_ HW_ => ?_)
                  generalize wr.drew = w35 at BK119 HB hHeld ⊢
                  refine pure_ (i := 0) (N := some 6) (v := ?_) (a' := ?_) #[true, false, false, false, false, false, false, false, false, false, false, false, false, false] rfl rfl (any_of HT_.out (by kernel_rfl)) (fun _ _ _ h => h) (Or.inl ⟨by rfl, ?_⟩) ?_ ?_
                  rotate_left
                  · intro w'
                    go_simp
                    with_reducible rfl
                  rotate_left
                  · simp only [Act.put, List.setIfInBounds_toArray, List.set_cons_zero, List.set_cons_succ, i64_w, i32_w]
                    rfl
                  refine pure_ (i := 1) (N := some 7) (v := ?_) (a' := ?_) #[true, true, false, false, false, false, false, false, false, false, false, false, false, false] rfl rfl (any_of HT_.out (by kernel_rfl)) (fun _ _ _ h => h) (Or.inl ⟨by rfl, ?_⟩) ?_ ?_
                  rotate_left
                  · intro w'
                    go_simp
                    with_reducible rfl
                  rotate_left
                  · simp only [Act.put, List.setIfInBounds_toArray, List.set_cons_zero, List.set_cons_succ, i64_w, i32_w]
                    rfl
                  refine pure_ (i := 2) (N := some 8) (v := ?_) (a' := ?_) #[true, true, true, false, false, false, false, false, false, false, false, false, false, false] rfl rfl (any_of HT_.out (by kernel_rfl)) (fun _ _ _ h => h) (Or.inl ⟨by rfl, ?_⟩) ?_ ?_
                  rotate_left
                  · intro w'
                    go_simp
                    with_reducible rfl
                  rotate_left
                  · simp only [Act.put, List.setIfInBounds_toArray, List.set_cons_zero, List.set_cons_succ, i64_w, i32_w]
                    rfl
                  refine pure_ (i := 3) (N := some 9) (v := ?_) (a' := ?_) #[true, true, true, true, false, false, false, false, false, false, false, false, false, false] rfl rfl (any_of HT_.out (by kernel_rfl)) (fun _ _ _ h => h) (Or.inl ⟨by rfl, ?_⟩) ?_ ?_
                  rotate_left
                  · intro w'
                    go_simp
                    with_reducible rfl
                  rotate_left
                  · simp only [Act.put, List.setIfInBounds_toArray, List.set_cons_zero, List.set_cons_succ, i64_w, i32_w]
                    rfl
                  refine pure_ (i := 4) (N := some 10) (v := ?_) (a' := ?_) #[true, true, true, true, true, false, false, false, false, false, false, false, false, false] rfl rfl (any_of HT_.out (by kernel_rfl)) (fun _ _ _ h => h) (Or.inl ⟨by rfl, ?_⟩) ?_ ?_
                  rotate_left
                  · intro w'
                    go_simp
                    with_reducible rfl
                  rotate_left
                  · simp only [Act.put, List.setIfInBounds_toArray, List.set_cons_zero, List.set_cons_succ, i64_w, i32_w]
                    rfl
                  refine pure_ (i := 5) (N := some 11) (v := undef) (a' := ?_) #[true, true, true, true, true, true, false, false, false, false, false, false, false, false] rfl rfl (any_of HT_.out (by kernel_rfl)) (fun _ _ _ h => h) (Or.inr ⟨by rfl, rfl⟩) ?_ ?_
                  rotate_left
                  · simp only [Act.put, List.setIfInBounds_toArray, List.set_cons_zero, List.set_cons_succ, i64_w, i32_w]
                    rfl
                  refine pure_ (i := 6) (N := some 12) (v := undef) (a' := ?_) #[true, true, true, true, true, true, true, false, false, false, false, false, false, false] rfl rfl (any_of HT_.out (by kernel_rfl)) (fun _ _ _ h => h) (Or.inr ⟨by rfl, rfl⟩) ?_ ?_
                  rotate_left
                  · simp only [Act.put, List.setIfInBounds_toArray, List.set_cons_zero, List.set_cons_succ, i64_w, i32_w]
                    rfl
                  refine pure_ (i := 7) (N := some 13) (v := undef) (a' := ?_) #[true, true, true, true, true, true, true, true, false, false, false, false, false, false] rfl rfl (any_of HT_.out (by kernel_rfl)) (fun _ _ _ h => h) (Or.inr ⟨by rfl, rfl⟩) ?_ ?_
                  rotate_left
                  · simp only [Act.put, List.setIfInBounds_toArray, List.set_cons_zero, List.set_cons_succ, i64_w, i32_w]
                    rfl
                  refine pure_ (i := 8) (N := some 14) (v := undef) (a' := ?_) #[true, true, true, true, true, true, true, true, true, false, false, false, false, false] rfl rfl (any_of HT_.out (by kernel_rfl)) (fun _ _ _ h => h) (Or.inr ⟨by rfl, rfl⟩) ?_ ?_
                  rotate_left
                  · simp only [Act.put, List.setIfInBounds_toArray, List.set_cons_zero, List.set_cons_succ, i64_w, i32_w]
                    rfl
                  refine pure_ (i := 9) (N := some 15) (v := undef) (a' := ?_) #[true, true, true, true, true, true, true, true, true, true, false, false, false, false] rfl rfl (any_of HT_.out (by kernel_rfl)) (fun _ _ _ h => h) (Or.inr ⟨by rfl, rfl⟩) ?_ ?_
                  rotate_left
                  · simp only [Act.put, List.setIfInBounds_toArray, List.set_cons_zero, List.set_cons_succ, i64_w, i32_w]
                    rfl
                  refine pure_ (i := 10) (N := some 16) (v := undef) (a' := ?_) #[true, true, true, true, true, true, true, true, true, true, true, false, false, false] rfl rfl (any_of HT_.out (by kernel_rfl)) (fun _ _ _ h => h) (Or.inr ⟨by rfl, rfl⟩) ?_ ?_
                  rotate_left
                  · simp only [Act.put, List.setIfInBounds_toArray, List.set_cons_zero, List.set_cons_succ, i64_w, i32_w]
                    rfl
                  refine pure_ (i := 11) (N := some 17) (v := undef) (a' := ?_) #[true, true, true, true, true, true, true, true, true, true, true, true, false, false] rfl rfl (any_of HT_.out (by kernel_rfl)) (fun _ _ _ h => h) (Or.inr ⟨by rfl, rfl⟩) ?_ ?_
                  rotate_left
                  · simp only [Act.put, List.setIfInBounds_toArray, List.set_cons_zero, List.set_cons_succ, i64_w, i32_w]
                    rfl
                  refine pure_ (i := 12) (N := some 18) (v := undef) (a' := ?_) #[true, true, true, true, true, true, true, true, true, true, true, true, true, false] rfl rfl (any_of HT_.out (by kernel_rfl)) (fun _ _ _ h => h) (Or.inr ⟨by rfl, rfl⟩) ?_ ?_
                  rotate_left
                  · simp only [Act.put, List.setIfInBounds_toArray, List.set_cons_zero, List.set_cons_succ, i64_w, i32_w]
                    rfl
                  refine pure_ (i := 13) (N := some 19) (v := ?_) (a' := ?_) #[true, true, true, true, true, true, true, true, true, true, true, true, true, true] rfl rfl (any_of HT_.out (by kernel_rfl)) (fun _ _ _ h => h) (Or.inl ⟨by rfl, ?_⟩) ?_ ?_
                  rotate_left
                  · intro w'
                    go_simp
                    with_reducible rfl
                  rotate_left
                  · simp only [Act.put, List.setIfInBounds_toArray, List.set_cons_zero, List.set_cons_succ, i64_w, i32_w]
                    rfl
                  refine done_ (done_of HT_.out (by kernel_rfl)) ?_
                  try go_wp2
                  have n0_ := Aside0.mk (blk_drew BK119.out)
                  have n1_ := Aside0.mk (below_drew1 HB.out)
                  clear BK119
                  clear HB
                  have BK119 := n0_
                  have HB := n1_
                  clear n0_ n1_
                  have q37 : (x5_1 : Int) ≤ ((l0.length : Int) : Int) := of_decide_eq_true (by first | (with_reducible assumption) | assumption)
                  obtain ⟨i037, hi037, _, hsz37, _⟩ := info_parts info39
                  have hroom37 : l0.length ≤ c0 := HC0.out
                  have hC37 : Kd.C k39 _ A0 l0.length l0 := HR0.out
                  have hcut37 := cut_to (P := Tryd.prog) 25 39 .i64 Tryd.underlying25 hi037 A0 l0.length c0 x5_1 (of_decide_eq_true (by first | (with_reducible assumption) | assumption)) q37 hroom37
                  have hr37 := Kd.C_take (m := (x5_1 : Int).toNat) hC37 (by omega)
                  have hy37 : y147.length = (x5_1 : Int).toNat := (by rw [Ny147.out, List.length_take]; omega)
                  rw [← Ny147.out] at hr37
                  rw [← hy37] at hcut37
                  have HR150 := Aside0.mk hr37
                  have HC150 := Aside0.mk (show y147.length ≤ c0 from by omega)
                  clear hr37 hC37 hroom37 hi037 hsz37
                  have KY37 := Aside0.mk hy37
                  clear hy37
                  replace q37 := eq_true q37
                  have q38 : (x5_1 : Int) ≤ ((l0.length : Int) : Int) := of_decide_eq_true (by first | (with_reducible assumption) | assumption)
                  obtain ⟨i038, hi038, _, hsz38, _⟩ := info_parts info39
                  have hroom38 : l0.length ≤ c0 := HC0.out
                  have hC38 : Kd.C k39 _ A0 l0.length l0 := HR0.out
                  have q038 : (0 : Int) ≤ (x5_1 : Int) := of_decide_eq_true (by first | (with_reducible assumption) | assumption)
                  have hcut38 := cut_from (P := Tryd.prog) 25 39 .i64 Tryd.underlying25 hi038 2 hsz38 A0 l0.length c0 x5_1 q038 q38
                  have hr38 := Kd.C_drop (m := (x5_1 : Int).toNat) (c := c0) hC38 (by omega) hroom38
                  obtain ⟨A38, hA38⟩ : ∃ A1, A1 = (if c0 = (x5_1 : Int).toNat then A0 else (A0 : Option Addr).map (·.add ((x5_1 : Int).toNat * 2))) := ⟨_, rfl⟩
                  obtain ⟨c38, hc38⟩ : ∃ c1, c1 = c0 - (x5_1 : Int).toNat := ⟨_, rfl⟩
                  have hy38 : y160.length = l0.length - (x5_1 : Int).toNat := (by rw [Ny160.out, List.length_drop] <;> omega)
                  rw [show (l0).drop (x5_1 : Int).toNat = y160 from Ny160.out.symm] at hr38
                  replace hr38 : Kd.C k39 _ A38 y160.length y160 := (by rw [hA38]; exact hr38)
                  rw [← hy38, ← hA38, ← hc38] at hcut38
                  have HR163 := Aside0.mk hr38
                  have HC163 := Aside0.mk (show y160.length ≤ c38 from by rw [hy38, hc38]; exact Nat.sub_le_sub_right hroom38 _)
                  clear hr38 hC38 hroom38 hi038 hsz38 hc38
                  have KY38 := Aside0.mk hy38
                  have KA38 := Aside0.mk hA38
                  clear hy38 hA38
                  replace q38 := eq_true q38
                  refine start_ (n := 13) (S := fun w' => w'.cell? ⟨gb119, 0, none⟩ = some (.int .u64 a1_0) ∧ w'.cell? ⟨gb119, 1, none⟩ = some (.int .i64 a1_1)) (ds := []) #[false, false, false, false, false, false, false, false, false, false, false, false, false] (by kernel_rfl) rfl rfl ⟨(blk_cell BK119.out 0).trans rfl, (blk_cell BK119.out 1).trans rfl⟩ (fun hHeld => ?_); refine with_tabW spec_put.tab4 spec_put.bits4 (fun HT_ HW_ => ?_)
                  generalize w35.drew = w36 at BK119 HB HR150 HR163 hHeld ⊢
                  refine pure_ (i := 1) (N := some 23) (v := ?_) (a' := ?_) #[false, true, false, false, false, false, false, false, false, false, false, false, false] rfl rfl (any_of HT_.out (by kernel_rfl)) (fun _ _ _ h => h) (Or.inl ⟨by rfl, ?_⟩) ?_ ?_
                  rotate_left
                  · intro w'
                    go_simp
                    with_reducible rfl
                  rotate_left
                  · simp only [Act.put, List.setIfInBounds_toArray, List.set_cons_zero, List.set_cons_succ, i64_w, i32_w]
                    rfl
                  refine pure_ (i := 2) (N := some 24) (v := ?_) (a' := ?_) #[false, true, true, false, false, false, false, false, false, false, false, false, false] rfl rfl (any_of HT_.out (by kernel_rfl)) (fun _ _ _ h => h) (Or.inl ⟨by rfl, ?_⟩) ?_ ?_
                  rotate_left
                  · intro w'
                    go_simp
                    with_reducible rfl
                  rotate_left
                  · simp only [Act.put, List.setIfInBounds_toArray, List.set_cons_zero, List.set_cons_succ, i64_w, i32_w]
                    rfl
                  refine pure_ (i := 3) (N := some 25) (v := ?_) (a' := ?_) #[false, true, true, true, false, false, false, false, false, false, false, false, false] rfl rfl (any_of HT_.out (by kernel_rfl)) (fun _ _ _ h => h) (Or.inl ⟨by rfl, ?_⟩) ?_ ?_
                  rotate_left
                  · intro w'
                    go_simp
                    with_reducible rfl
                  rotate_left
                  · simp only [Act.put, List.setIfInBounds_toArray, List.set_cons_zero, List.set_cons_succ, i64_w, i32_w]
                    rfl
                  refine pure_ (i := 8) (N := some 30) (v := ?_) (a' := ?_) #[false, true, true, true, false, false, false, false, true, false, false, false, false] rfl rfl (any_of HT_.out (by kernel_rfl)) (fun _ _ _ h => h) (Or.inl ⟨by rfl, ?_⟩) ?_ ?_
                  rotate_left
                  · intro w'
                    go_simp
                    with_reducible rfl
                  rotate_left
                  · simp only [Act.put, List.setIfInBounds_toArray, List.set_cons_zero, List.set_cons_succ, i64_w, i32_w]
                    rfl
                  refine pure_ (i := 9) (N := some 31) (v := ?_) (a' := ?_) #[false, true, true, true, false, false, false, false, true, true, false, false, false] rfl rfl (any_of HT_.out (by kernel_rfl)) (fun _ _ _ h => h) (Or.inl ⟨by rfl, ?_⟩) ?_ ?_
                  rotate_left
                  · intro w'
                    go_simp
                    with_reducible rfl
                  rotate_left
                  · simp only [Act.put, List.setIfInBounds_toArray, List.set_cons_zero, List.set_cons_succ, i64_w, i32_w]
                    rfl
                  refine pure_ (i := 10) (N := some 32) (v := ?_) (a' := ?_) #[false, true, true, true, false, false, false, false, true, true, true, false, false] rfl rfl (any_of HT_.out (by kernel_rfl)) (fun _ _ _ h => h) (Or.inl ⟨by rfl, ?_⟩) ?_ ?_
                  rotate_left
                  · intro w'
                    go_simp
                    with_reducible rfl
                  rotate_left
                  · simp only [Act.put, List.setIfInBounds_toArray, List.set_cons_zero, List.set_cons_succ, i64_w, i32_w]
                    rfl
                  refine take_ (i := 5) (N := some 27) (v := ?_) (a' := ?_) #[false, true, true, true, false, true, false, false, true, true, true, false, false] rfl rfl (take_ofW HT_.out HW_.out (by kernel_rfl)) (fun _ _ _ h => h) (Or.inl ⟨by rfl, ?_⟩) hHeld ?_ ?_
                  rotate_left
                  · rintro w' ⟨s0, s1⟩
                    go_simp
                    with_reducible rfl
                  rotate_left
                  · simp only [Act.put, List.setIfInBounds_toArray, List.set_cons_zero, List.set_cons_succ, i64_w, i32_w]
                    rfl
                  refine join_ (σ := Value × Value × Value) 3 #[true, true, true, true, true, true, true, false, true, true, true, false, false] (fun s_ => [(22, s_.1), (26, s_.2.1), (28, s_.2.2)]) (fun s_ w' => (w'.cell? ⟨gb119, 0, none⟩ = some (.int .u64 a1_0) ∧ w'.cell? ⟨gb119, 1, none⟩ = some (.int .i64 a1_1)) ∧ (Kd.R k39 39 w' w.heap.size (fun k_ => some k_ ≠ (s_.2.2 : Value).ownBlock ∧ k_ ≠ gb119) s_.2.1 y151) ∧ (Kd.R k39 39 w' w.heap.size (fun k_ => some k_ ≠ (s_.2.1 : Value).ownBlock ∧ k_ ≠ gb119) s_.2.2 y154) ∧ (w'.heap[gb119]? = some (.cells #[.int .u64 a1_0, .int .i64 a1_1] 39 (0, 0))) ∧ (Below w.heap.size w w')) ?_ ?_
                  rotate_left
                  · intro hCont
                    refine two_ (i := 0) (j := 6) (Ni := some 22) (Nj := some 28) #[true, true, true, true, false, true, false, false, true, true, true, false, false] #[false, true, true, true, false, true, true, false, true, true, true, false, false] rfl rfl rfl rfl (two_of HT_.out (by kernel_rfl)) (by decide) (by decide) (fun K hK => ?_) (fun K hK => ?_)
                    · skip
                      refine Kd.R_lit_step k39 _ 39 ?hg (N := 22) ?hd (xs := ([] : List (S39))) (inner := []) (ok := fun _ => True) (okp := fun _ => True) ?hr ?hp (fun _ hk => hk) trivial (Below.refl _ _) (Nat.le_refl _) (by simp) ?_; (case hd => rfl); (case hg => rfl); (case hr => first | (go_simp; done) | (go_simp; rfl)); (case hp => exact (Reps.none _ _))
                      intro v145 w39 ho40 hb hg_ hnew_
                      clear hg_ hnew_
                      (first | rw [← Ny144.out] at ho40 | (simp only [Int.reduceToNat] at ho40; rw [← Ny144.out] at ho40))
                      have n0_ := Aside0.mk (Kd.R_lower (Kd.R_newB ho40 (g := gb119) (o := .cells #[.int .u64 a1_0, .int .i64 a1_1] 39 (0, 0)) (by (with_reducible repeat (first | refine blk_drewN ?_ _ | refine blk_drew ?_ | refine blk_alloc ?_ _)); exact BK119.out)) (below_size (by repeat (first | (with_reducible first | exact HB.out | apply below_alloc | apply pw_below_drewN | apply below_drew1 | refine below_set ?_ GE119.out) | exact HB.out))))
                      have n1_ := Aside0.mk (blk_below (g := gb119) (o := .cells #[.int .u64 a1_0, .int .i64 a1_1] 39 (0, 0)) (by (with_reducible repeat (first | refine blk_drewN ?_ _ | refine blk_drew ?_ | refine blk_alloc ?_ _)); exact BK119.out) hb)
                      have n2_ := Aside0.mk (below_step (by repeat (first | (with_reducible first | exact HB.out | apply below_alloc | apply pw_below_drewN | apply below_drew1 | refine below_set ?_ GE119.out) | exact HB.out)) hb)
                      clear BK119
                      clear HB
                      have HO146 := n0_
                      have BK119 := n1_
                      have HB := n2_
                      clear n0_ n1_ n2_
                      clear hb ho40
                      refine hK.out _ _ ⟨(blk_cell BK119.out 0).trans rfl, (blk_cell BK119.out 1).trans rfl⟩ (fun hHeld => ?_)
                      clear hK K
                      refine norm_ (a' := ?_) ?_ ?_
                      rotate_left
                      · show Act.put _ (some 22) _ = _
                        simp only [Act.put, List.setIfInBounds_toArray, List.set_cons_zero, List.set_cons_succ, i64_w, i32_w]
                        rfl
                      refine two_ (i := 4) (j := 6) (Ni := some 26) (Nj := some 28) #[true, true, true, true, true, true, false, false, true, true, true, false, false] #[true, true, true, true, false, true, true, false, true, true, true, false, false] rfl rfl rfl rfl (two_of HT_.out (by kernel_rfl)) (by decide) (by decide) (fun K hK => ?_) (fun K hK => ?_)
                      · skip
                        refine Kd.R_append_rows_step k39 (w0 := w) w.heap.size (by rfl) (.tmp 22) (.tmp 25) 25 39 (.agg #[(.int .u64 0), (.int .i64 0)]) 16 rfl Tryd.underlying25 info39 rfl (by decide) (by omega) v145 y144 y147 _ _ _ (fun k_ => k_ ≠ gb119) (fun _ => False) rfl rfl ?aO ?aR (fun _ _ h => h) (fun _ h => h.elim) ?aF ?aB ?aS ?aL ?_
                        (case aR => repeat (first | exact (Kd.C_below HR150.out HB.out) | (with_reducible refine Kd.C_alloc ?_ _) | (with_reducible refine Kd.C_drewN ?_ _) | (with_reducible refine Kd.C_drew ?_)))
                        (case aB => exact (by repeat (first | (with_reducible first | exact HB.out | apply below_alloc | apply pw_below_drewN | apply below_drew1 | refine below_set ?_ GE119.out) | exact HB.out)))
                        (case aF => exact (fun k_ hk => Kd.freshB (g := gb119) (o := .cells #[.int .u64 a1_0, .int .i64 a1_1] 39 (0, 0)) (by (with_reducible repeat (first | refine blk_drewN ?_ _ | refine blk_drew ?_ | refine blk_alloc ?_ _)); exact BK119.out) k_ hk))
                        (case aO => exact (by (with_reducible repeat (first | apply Kd.R_alloc | apply Kd.R_drewN | apply Kd.R_drew)); exact Kd.R_mono HO146.out (fun _ hk => hk.2)))
                        (case aS => exact (below_size (by repeat (first | (with_reducible first | exact HB.out | apply below_alloc | apply pw_below_drewN | apply below_drew1 | refine below_set ?_ GE119.out) | exact HB.out))))
                        (case aL => have := LMc30.out; omega)
                        intro v152 w41 ho hb hg hat
                        rw [← Ny151.out] at ho
                        have n0_ := Aside0.mk (blk_grown (g := gb119) (o := .cells #[.int .u64 a1_0, .int .i64 a1_1] 39 (0, 0)) (by (with_reducible repeat (first | refine blk_drewN ?_ _ | refine blk_drew ?_ | refine blk_alloc ?_ _)); exact BK119.out) hg (Kd.R_away HO146.out (fun _ hk => hk.2)))
                        have n1_ := Aside0.mk (hb)
                        have n2_ := Aside0.mk (ho)
                        clear BK119
                        clear HB
                        clear HO146
                        have BK119 := n0_
                        have HB := n1_
                        have HO153 := n2_
                        clear n0_ n1_ n2_
                        clear ho hb hg hat
                        refine hK.out _ _ ⟨(blk_cell BK119.out 0).trans rfl, (blk_cell BK119.out 1).trans rfl⟩ (fun hHeld => ?_)
                        clear hK K
                        refine norm_ (a' := ?_) ?_ ?_
                        rotate_left
                        · show Act.put _ (some 26) _ = _
                          simp only [Act.put, List.setIfInBounds_toArray, List.set_cons_zero, List.set_cons_succ, i64_w, i32_w]
                          rfl
                        refine one_ (i := 6) (N := some 28) #[true, true, true, true, true, true, true, false, true, true, true, false, false] rfl rfl (one_of HT_.out (by kernel_rfl)) (by decide) (fun K hK => ?_)
                        refine Kd.R_lit_step k39 _ 39 ?hg (N := 28) ?hd (xs := ([(⟨a1_0, a1_1⟩ : S39)] : List (S39))) (inner := [.int .u64 a1_0, .int .i64 a1_1]) (ok := fun _ => True) (okp := fun _ => True) ?hr ?hp (fun _ hk => hk) trivial (Below.refl _ _) (Nat.le_refl _) (by simp) ?_; (case hd => rfl); (case hg => rfl); (case hr => first | (go_simp; done) | (go_simp; rfl)); (case hp => exact (Reps.c2 (show Kd.M k39 _ _ _ (⟨a1_0, a1_1⟩ : S39) [.int .u64 a1_0, .int .i64 a1_1] from (k39_mkM _ _ _ (⟨a1_0, a1_1⟩ : S39) )) (Reps.none _ _)))
                        intro v155 w42 ho43 hb hg_ hnew_
                        clear hg_ hnew_
                        (first | rw [← Ny154.out] at ho43 | (simp only [Int.reduceToNat] at ho43; rw [← Ny154.out] at ho43))
                        have n0_ := Aside0.mk (Kd.R_elder' (by (with_reducible repeat (first | apply Kd.R_alloc | apply Kd.R_drewN | apply Kd.R_drew)); exact HO153.out) (Kd.R_base ho43) hb)
                        have n1_ := Aside0.mk (Kd.R_lower (Kd.R_newB (Kd.R_new' ho43 (Kd.R_lt (by (with_reducible repeat (first | apply Kd.R_alloc | apply Kd.R_drewN | apply Kd.R_drew)); exact HO153.out))) (g := gb119) (o := .cells #[.int .u64 a1_0, .int .i64 a1_1] 39 (0, 0)) (by (with_reducible repeat (first | refine blk_drewN ?_ _ | refine blk_drew ?_ | refine blk_alloc ?_ _)); exact BK119.out)) (below_size (by repeat (first | (with_reducible first | exact HB.out | apply below_alloc | apply pw_below_drewN | apply below_drew1 | refine below_set ?_ GE119.out) | exact HB.out))))
                        have n2_ := Aside0.mk (blk_below (g := gb119) (o := .cells #[.int .u64 a1_0, .int .i64 a1_1] 39 (0, 0)) (by (with_reducible repeat (first | refine blk_drewN ?_ _ | refine blk_drew ?_ | refine blk_alloc ?_ _)); exact BK119.out) hb)
                        have n3_ := Aside0.mk (below_step (by repeat (first | (with_reducible first | exact HB.out | apply below_alloc | apply pw_below_drewN | apply below_drew1 | refine below_set ?_ GE119.out) | exact HB.out)) hb)
                        clear HO153
                        clear BK119
                        clear HB
                        have HO153 := n0_
                        have HO156 := n1_
                        have BK119 := n2_
                        have HB := n3_
                        clear n0_ n1_ n2_ n3_
                        clear hb ho43
                        refine hK.out _ _ ⟨(blk_cell BK119.out 0).trans rfl, (blk_cell BK119.out 1).trans rfl⟩ (fun hHeld => ?_)
                        clear hK K
                        refine norm_ (a' := ?_) ?_ ?_
                        rotate_left
                        · show Act.put _ (some 28) _ = _
                          simp only [Act.put, List.setIfInBounds_toArray, List.set_cons_zero, List.set_cons_succ, i64_w, i32_w]
                          rfl
                        exact norm_ (by simp only [putAll, Act.put, List.setIfInBounds_toArray, List.set_cons_zero, List.set_cons_succ]) (hCont (v145, v152, v155) _ ⟨hHeld, (by (with_reducible repeat (first | apply Kd.R_alloc | apply Kd.R_drewN | apply Kd.R_drew)); exact Kd.R_mono HO153.out (fun _ hk => ⟨hk.2, hk.1⟩)), (by (with_reducible repeat (first | apply Kd.R_alloc | apply Kd.R_drewN | apply Kd.R_drew)); exact Kd.R_mono HO156.out (fun _ hk => ⟨hk.1.2, hk.2⟩)), (by (with_reducible repeat (first | refine blk_drewN ?_ _ | refine blk_drew ?_ | refine blk_alloc ?_ _)); exact BK119.out), (by repeat (first | (with_reducible first | exact HB.out | apply below_alloc | apply pw_below_drewN | apply below_drew1 | refine below_set ?_ GE119.out) | exact HB.out))⟩)
                      · skip
                        refine Kd.R_lit_step k39 _ 39 ?hg (N := 28) ?hd (xs := ([(⟨a1_0, a1_1⟩ : S39)] : List (S39))) (inner := [.int .u64 a1_0, .int .i64 a1_1]) (ok := fun _ => True) (okp := fun _ => True) ?hr ?hp (fun _ hk => hk) trivial (Below.refl _ _) (Nat.le_refl _) (by simp) ?_; (case hd => rfl); (case hg => rfl); (case hr => first | (go_simp; done) | (go_simp; rfl)); (case hp => exact (Reps.c2 (show Kd.M k39 _ _ _ (⟨a1_0, a1_1⟩ : S39) [.int .u64 a1_0, .int .i64 a1_1] from (k39_mkM _ _ _ (⟨a1_0, a1_1⟩ : S39) )) (Reps.none _ _)))
                        intro v155 w41 ho42 hb hg_ hnew_
                        clear hg_ hnew_
                        (first | rw [← Ny154.out] at ho42 | (simp only [Int.reduceToNat] at ho42; rw [← Ny154.out] at ho42))
                        have n0_ := Aside0.mk (Kd.R_elder' (by (with_reducible repeat (first | apply Kd.R_alloc | apply Kd.R_drewN | apply Kd.R_drew)); exact HO146.out) (Kd.R_base ho42) hb)
                        have n1_ := Aside0.mk (Kd.R_lower (Kd.R_newB (Kd.R_new' ho42 (Kd.R_lt (by (with_reducible repeat (first | apply Kd.R_alloc | apply Kd.R_drewN | apply Kd.R_drew)); exact HO146.out))) (g := gb119) (o := .cells #[.int .u64 a1_0, .int .i64 a1_1] 39 (0, 0)) (by (with_reducible repeat (first | refine blk_drewN ?_ _ | refine blk_drew ?_ | refine blk_alloc ?_ _)); exact BK119.out)) (below_size (by repeat (first | (with_reducible first | exact HB.out | apply below_alloc | apply pw_below_drewN | apply below_drew1 | refine below_set ?_ GE119.out) | exact HB.out))))
                        have n2_ := Aside0.mk (blk_below (g := gb119) (o := .cells #[.int .u64 a1_0, .int .i64 a1_1] 39 (0, 0)) (by (with_reducible repeat (first | refine blk_drewN ?_ _ | refine blk_drew ?_ | refine blk_alloc ?_ _)); exact BK119.out) hb)
                        have n3_ := Aside0.mk (below_step (by repeat (first | (with_reducible first | exact HB.out | apply below_alloc | apply pw_below_drewN | apply below_drew1 | refine below_set ?_ GE119.out) | exact HB.out)) hb)
                        clear HO146
                        clear BK119
                        clear HB
                        have HO146 := n0_
                        have HO156 := n1_
                        have BK119 := n2_
                        have HB := n3_
                        clear n0_ n1_ n2_ n3_
                        clear hb ho42
                        refine hK.out _ _ ⟨(blk_cell BK119.out 0).trans rfl, (blk_cell BK119.out 1).trans rfl⟩ (fun hHeld => ?_)
                        clear hK K
                        refine norm_ (a' := ?_) ?_ ?_
                        rotate_left
                        · show Act.put _ (some 28) _ = _
                          simp only [Act.put, List.setIfInBounds_toArray, List.set_cons_zero, List.set_cons_succ, i64_w, i32_w]
                          rfl
                        refine one_ (i := 4) (N := some 26) #[true, true, true, true, true, true, true, false, true, true, true, false, false] rfl rfl (one_of HT_.out (by kernel_rfl)) (by decide) (fun K hK => ?_)
                        refine Kd.R_append_rows_step k39 (w0 := w) w.heap.size (by rfl) (.tmp 22) (.tmp 25) 25 39 (.agg #[(.int .u64 0), (.int .i64 0)]) 16 rfl Tryd.underlying25 info39 rfl (by decide) (by omega) v145 y144 y147 _ _ _ (fun k_ => some k_ ≠ (v155 : Value).ownBlock ∧ k_ ≠ gb119) (fun _ => False) rfl rfl ?aO ?aR (fun _ _ h => h) (fun _ h => h.elim) ?aF ?aB ?aS ?aL ?_
                        (case aR => repeat (first | exact (Kd.C_below HR150.out HB.out) | (with_reducible refine Kd.C_alloc ?_ _) | (with_reducible refine Kd.C_drewN ?_ _) | (with_reducible refine Kd.C_drew ?_)))
                        (case aB => exact (by repeat (first | (with_reducible first | exact HB.out | apply below_alloc | apply pw_below_drewN | apply below_drew1 | refine below_set ?_ GE119.out) | exact HB.out)))
                        (case aF => exact (fun k_ hk => ⟨Kd.fresh' (Kd.R_lt (by (with_reducible repeat (first | apply Kd.R_alloc | apply Kd.R_drewN | apply Kd.R_drew)); exact HO156.out)) k_ hk, Kd.freshB (g := gb119) (o := .cells #[.int .u64 a1_0, .int .i64 a1_1] 39 (0, 0)) (by (with_reducible repeat (first | refine blk_drewN ?_ _ | refine blk_drew ?_ | refine blk_alloc ?_ _)); exact BK119.out) k_ hk⟩))
                        (case aO => exact (by (with_reducible repeat (first | apply Kd.R_alloc | apply Kd.R_drewN | apply Kd.R_drew)); exact Kd.R_mono HO146.out (fun _ hk => ⟨hk.2, hk.1.2⟩)))
                        (case aS => exact (below_size (by repeat (first | (with_reducible first | exact HB.out | apply below_alloc | apply pw_below_drewN | apply below_drew1 | refine below_set ?_ GE119.out) | exact HB.out))))
                        (case aL => have := LMc30.out; omega)
                        intro v152 w43 ho hb hg hat
                        rw [← Ny151.out] at ho
                        have n0_ := Aside0.mk (blk_grown (g := gb119) (o := .cells #[.int .u64 a1_0, .int .i64 a1_1] 39 (0, 0)) (by (with_reducible repeat (first | refine blk_drewN ?_ _ | refine blk_drew ?_ | refine blk_alloc ?_ _)); exact BK119.out) hg (Kd.R_away HO146.out (fun _ hk => hk.1.2)))
                        have n1_ := Aside0.mk (Kd.R_after (ok := (fun k_ => k_ ≠ gb119)) (by (with_reducible repeat (first | apply Kd.R_alloc | apply Kd.R_drewN | apply Kd.R_drew)); exact Kd.R_mono HO156.out (fun _ hk => ⟨hk.2, hk.1.2⟩)) hg hat)
                        have n2_ := Aside0.mk (hb)
                        have n3_ := Aside0.mk (ho)
                        clear BK119
                        clear HO156
                        clear HB
                        clear HO146
                        have BK119 := n0_
                        have HO156 := n1_
                        have HB := n2_
                        have HO153 := n3_
                        clear n0_ n1_ n2_ n3_
                        clear ho hb hg hat
                        refine hK.out _ _ ⟨(blk_cell BK119.out 0).trans rfl, (blk_cell BK119.out 1).trans rfl⟩ (fun hHeld => ?_)
                        clear hK K
                        refine norm_ (a' := ?_) ?_ ?_
                        rotate_left
                        · show Act.put _ (some 26) _ = _
                          simp only [Act.put, List.setIfInBounds_toArray, List.set_cons_zero, List.set_cons_succ, i64_w, i32_w]
                          rfl
                        exact norm_ (by simp only [putAll, Act.put, List.setIfInBounds_toArray, List.set_cons_zero, List.set_cons_succ]) (hCont (v145, v152, v155) _ ⟨hHeld, (by (with_reducible repeat (first | apply Kd.R_alloc | apply Kd.R_drewN | apply Kd.R_drew)); exact HO153.out), (by (with_reducible repeat (first | apply Kd.R_alloc | apply Kd.R_drewN | apply Kd.R_drew)); exact Kd.R_mono HO156.out (fun _ hk => ⟨hk.2, hk.1⟩)), (by (with_reducible repeat (first | refine blk_drewN ?_ _ | refine blk_drew ?_ | refine blk_alloc ?_ _)); exact BK119.out), (by repeat (first | (with_reducible first | exact HB.out | apply below_alloc | apply pw_below_drewN | apply below_drew1 | refine below_set ?_ GE119.out) | exact HB.out))⟩)
                    · skip
                      refine Kd.R_lit_step k39 _ 39 ?hg (N := 28) ?hd (xs := ([(⟨a1_0, a1_1⟩ : S39)] : List (S39))) (inner := [.int .u64 a1_0, .int .i64 a1_1]) (ok := fun _ => True) (okp := fun _ => True) ?hr ?hp (fun _ hk => hk) trivial (Below.refl _ _) (Nat.le_refl _) (by simp) ?_; (case hd => rfl); (case hg => rfl); (case hr => first | (go_simp; done) | (go_simp; rfl)); (case hp => exact (Reps.c2 (show Kd.M k39 _ _ _ (⟨a1_0, a1_1⟩ : S39) [.int .u64 a1_0, .int .i64 a1_1] from (k39_mkM _ _ _ (⟨a1_0, a1_1⟩ : S39) )) (Reps.none _ _)))
                      intro v155 w39 ho40 hb hg_ hnew_
                      clear hg_ hnew_
                      (first | rw [← Ny154.out] at ho40 | (simp only [Int.reduceToNat] at ho40; rw [← Ny154.out] at ho40))
                      have n0_ := Aside0.mk (Kd.R_lower (Kd.R_newB ho40 (g := gb119) (o := .cells #[.int .u64 a1_0, .int .i64 a1_1] 39 (0, 0)) (by (with_reducible repeat (first | refine blk_drewN ?_ _ | refine blk_drew ?_ | refine blk_alloc ?_ _)); exact BK119.out)) (below_size (by repeat (first | (with_reducible first | exact HB.out | apply below_alloc | apply pw_below_drewN | apply below_drew1 | refine below_set ?_ GE119.out) | exact HB.out))))
                      have n1_ := Aside0.mk (blk_below (g := gb119) (o := .cells #[.int .u64 a1_0, .int .i64 a1_1] 39 (0, 0)) (by (with_reducible repeat (first | refine blk_drewN ?_ _ | refine blk_drew ?_ | refine blk_alloc ?_ _)); exact BK119.out) hb)
                      have n2_ := Aside0.mk (below_step (by repeat (first | (with_reducible first | exact HB.out | apply below_alloc | apply pw_below_drewN | apply below_drew1 | refine below_set ?_ GE119.out) | exact HB.out)) hb)
                      clear BK119
                      clear HB
                      have HO156 := n0_
                      have BK119 := n1_
                      have HB := n2_
                      clear n0_ n1_ n2_
                      clear hb ho40
                      refine hK.out _ _ ⟨(blk_cell BK119.out 0).trans rfl, (blk_cell BK119.out 1).trans rfl⟩ (fun hHeld => ?_)
                      clear hK K
                      refine norm_ (a' := ?_) ?_ ?_
                      rotate_left
                      · show Act.put _ (some 28) _ = _
                        simp only [Act.put, List.setIfInBounds_toArray, List.set_cons_zero, List.set_cons_succ, i64_w, i32_w]
                        rfl
                      refine one_ (i := 0) (N := some 22) #[true, true, true, true, false, true, true, false, true, true, true, false, false] rfl rfl (one_of HT_.out (by kernel_rfl)) (by decide) (fun K hK => ?_)
                      refine Kd.R_lit_step k39 _ 39 ?hg (N := 22) ?hd (xs := ([] : List (S39))) (inner := []) (ok := fun _ => True) (okp := fun _ => True) ?hr ?hp (fun _ hk => hk) trivial (Below.refl _ _) (Nat.le_refl _) (by simp) ?_; (case hd => rfl); (case hg => rfl); (case hr => first | (go_simp; done) | (go_simp; rfl)); (case hp => exact (Reps.none _ _))
                      intro v145 w41 ho42 hb hg_ hnew_
                      clear hg_ hnew_
                      (first | rw [← Ny144.out] at ho42 | (simp only [Int.reduceToNat] at ho42; rw [← Ny144.out] at ho42))
                      have n0_ := Aside0.mk (Kd.R_elder' (by (with_reducible repeat (first | apply Kd.R_alloc | apply Kd.R_drewN | apply Kd.R_drew)); exact HO156.out) (Kd.R_base ho42) hb)
                      have n1_ := Aside0.mk (Kd.R_lower (Kd.R_newB (Kd.R_new' ho42 (Kd.R_lt (by (with_reducible repeat (first | apply Kd.R_alloc | apply Kd.R_drewN | apply Kd.R_drew)); exact HO156.out))) (g := gb119) (o := .cells #[.int .u64 a1_0, .int .i64 a1_1] 39 (0, 0)) (by (with_reducible repeat (first | refine blk_drewN ?_ _ | refine blk_drew ?_ | refine blk_alloc ?_ _)); exact BK119.out)) (below_size (by repeat (first | (with_reducible first | exact HB.out | apply below_alloc | apply pw_below_drewN | apply below_drew1 | refine below_set ?_ GE119.out) | exact HB.out))))
                      have n2_ := Aside0.mk (blk_below (g := gb119) (o := .cells #[.int .u64 a1_0, .int .i64 a1_1] 39 (0, 0)) (by (with_reducible repeat (first | refine blk_drewN ?_ _ | refine blk_drew ?_ | refine blk_alloc ?_ _)); exact BK119.out) hb)
                      have n3_ := Aside0.mk (below_step (by repeat (first | (with_reducible first | exact HB.out | apply below_alloc | apply pw_below_drewN | apply below_drew1 | refine below_set ?_ GE119.out) | exact HB.out)) hb)
                      clear HO156
                      clear BK119
                      clear HB
                      have HO156 := n0_
                      have HO146 := n1_
                      have BK119 := n2_
                      have HB := n3_
                      clear n0_ n1_ n2_ n3_
                      clear hb ho42
                      refine hK.out _ _ ⟨(blk_cell BK119.out 0).trans rfl, (blk_cell BK119.out 1).trans rfl⟩ (fun hHeld => ?_)
                      clear hK K
                      refine norm_ (a' := ?_) ?_ ?_
                      rotate_left
                      · show Act.put _ (some 22) _ = _
                        simp only [Act.put, List.setIfInBounds_toArray, List.set_cons_zero, List.set_cons_succ, i64_w, i32_w]
                        rfl
                      refine one_ (i := 4) (N := some 26) #[true, true, true, true, true, true, true, false, true, true, true, false, false] rfl rfl (one_of HT_.out (by kernel_rfl)) (by decide) (fun K hK => ?_)
                      refine Kd.R_append_rows_step k39 (w0 := w) w.heap.size (by rfl) (.tmp 22) (.tmp 25) 25 39 (.agg #[(.int .u64 0), (.int .i64 0)]) 16 rfl Tryd.underlying25 info39 rfl (by decide) (by omega) v145 y144 y147 _ _ _ (fun k_ => some k_ ≠ (v155 : Value).ownBlock ∧ k_ ≠ gb119) (fun _ => False) rfl rfl ?aO ?aR (fun _ _ h => h) (fun _ h => h.elim) ?aF ?aB ?aS ?aL ?_
                      (case aR => repeat (first | exact (Kd.C_below HR150.out HB.out) | (with_reducible refine Kd.C_alloc ?_ _) | (with_reducible refine Kd.C_drewN ?_ _) | (with_reducible refine Kd.C_drew ?_)))
                      (case aB => exact (by repeat (first | (with_reducible first | exact HB.out | apply below_alloc | apply pw_below_drewN | apply below_drew1 | refine below_set ?_ GE119.out) | exact HB.out)))
                      (case aF => exact (fun k_ hk => ⟨Kd.fresh' (Kd.R_lt (by (with_reducible repeat (first | apply Kd.R_alloc | apply Kd.R_drewN | apply Kd.R_drew)); exact HO156.out)) k_ hk, Kd.freshB (g := gb119) (o := .cells #[.int .u64 a1_0, .int .i64 a1_1] 39 (0, 0)) (by (with_reducible repeat (first | refine blk_drewN ?_ _ | refine blk_drew ?_ | refine blk_alloc ?_ _)); exact BK119.out) k_ hk⟩))
                      (case aO => exact (by (with_reducible repeat (first | apply Kd.R_alloc | apply Kd.R_drewN | apply Kd.R_drew)); exact Kd.R_mono HO146.out (fun _ hk => ⟨hk.1.2, hk.2⟩)))
                      (case aS => exact (below_size (by repeat (first | (with_reducible first | exact HB.out | apply below_alloc | apply pw_below_drewN | apply below_drew1 | refine below_set ?_ GE119.out) | exact HB.out))))
                      (case aL => have := LMc30.out; omega)
                      intro v152 w43 ho hb hg hat
                      rw [← Ny151.out] at ho
                      have n0_ := Aside0.mk (blk_grown (g := gb119) (o := .cells #[.int .u64 a1_0, .int .i64 a1_1] 39 (0, 0)) (by (with_reducible repeat (first | refine blk_drewN ?_ _ | refine blk_drew ?_ | refine blk_alloc ?_ _)); exact BK119.out) hg (Kd.R_away HO146.out (fun _ hk => hk.2)))
                      have n1_ := Aside0.mk (Kd.R_after (ok := (fun k_ => k_ ≠ gb119)) (by (with_reducible repeat (first | apply Kd.R_alloc | apply Kd.R_drewN | apply Kd.R_drew)); exact Kd.R_mono HO156.out (fun _ hk => ⟨hk.1.2, hk.2⟩)) hg hat)
                      have n2_ := Aside0.mk (hb)
                      have n3_ := Aside0.mk (ho)
                      clear BK119
                      clear HO156
                      clear HB
                      clear HO146
                      have BK119 := n0_
                      have HO156 := n1_
                      have HB := n2_
                      have HO153 := n3_
                      clear n0_ n1_ n2_ n3_
                      clear ho hb hg hat
                      refine hK.out _ _ ⟨(blk_cell BK119.out 0).trans rfl, (blk_cell BK119.out 1).trans rfl⟩ (fun hHeld => ?_)
                      clear hK K
                      refine norm_ (a' := ?_) ?_ ?_
                      rotate_left
                      · show Act.put _ (some 26) _ = _
                        simp only [Act.put, List.setIfInBounds_toArray, List.set_cons_zero, List.set_cons_succ, i64_w, i32_w]
                        rfl
                      exact norm_ (by simp only [putAll, Act.put, List.setIfInBounds_toArray, List.set_cons_zero, List.set_cons_succ]) (hCont (v145, v152, v155) _ ⟨hHeld, (by (with_reducible repeat (first | apply Kd.R_alloc | apply Kd.R_drewN | apply Kd.R_drew)); exact HO153.out), (by (with_reducible repeat (first | apply Kd.R_alloc | apply Kd.R_drewN | apply Kd.R_drew)); exact Kd.R_mono HO156.out (fun _ hk => ⟨hk.2, hk.1⟩)), (by (with_reducible repeat (first | refine blk_drewN ?_ _ | refine blk_drew ?_ | refine blk_alloc ?_ _)); exact BK119.out), (by repeat (first | (with_reducible first | exact HB.out | apply below_alloc | apply pw_below_drewN | apply below_drew1 | refine below_set ?_ GE119.out) | exact HB.out))⟩)
                  rintro ⟨v145, v152, v155⟩ w44 ⟨hS_, h0_, h1_, h2_, h3_⟩
                  have n0_ : Aside0 (Kd.R k39 39 w44 w.heap.size (fun k_ => some k_ ≠ (v155 : Value).ownBlock ∧ k_ ≠ gb119) v152 y151) := ⟨h0_⟩
                  have n1_ : Aside0 (Kd.R k39 39 w44 w.heap.size (fun k_ => some k_ ≠ (v152 : Value).ownBlock ∧ k_ ≠ gb119) v155 y154) := ⟨h1_⟩
                  have n2_ : Aside0 (w44.heap[gb119]? = some (.cells #[.int .u64 a1_0, .int .i64 a1_1] 39 (0, 0))) := ⟨h2_⟩
                  have n3_ : Aside0 (Below w.heap.size w w44) := ⟨h3_⟩
                  clear BK119
                  clear HB
                  clear h0_ h1_ h2_ h3_
                  have HO153 := n0_
                  have HO156 := n1_
                  have BK119 := n2_
                  have HB := n3_
                  clear n0_ n1_ n2_ n3_
                  have hHeld : w44.cell? ⟨gb119, 0, none⟩ = some (.int .u64 a1_0) ∧ w44.cell? ⟨gb119, 1, none⟩ = some (.int .i64 a1_1) := hS_
                  obtain ⟨Ao46, co46, eo46⟩ := Kd.R_slice HO156.out
                  (first | subst eo46 | (injection eo46 with f1_ f2_ f3_; have f4_ := f1_.symm; have f5_ := f3_.symm; clear f1_ f2_ f3_; subst f4_; subst f5_))
                  refine norm_ (a' := ?_) ?_ ?_
                  rotate_left
                  · simp only [putAll, Act.put, List.setIfInBounds_toArray, List.set_cons_zero, List.set_cons_succ]
                    rfl
                  refine one_ (i := 7) (N := some 29) #[true, true, true, true, true, true, true, true, true, true, true, false, false] rfl rfl (one_of HT_.out (by kernel_rfl)) (by decide) (fun K hK => ?_)
                  refine Kd.R_append_rows_step k39 (w0 := w) w.heap.size (by rfl) (.tmp 26) (.tmp 28) 25 39 (.agg #[(.int .u64 0), (.int .i64 0)]) 16 rfl Tryd.underlying25 info39 rfl (by decide) (by omega) v152 y151 y154 _ _ _ (fun k_ => some k_ ≠ (.slice Ao46 y154.length co46 : Value).ownBlock ∧ k_ ≠ gb119) (fun _ => False) rfl rfl ?aO ?aR (fun _ _ h => h) (fun _ h => h.elim) ?aF ?aB ?aS ?aL ?_
                  (case aR => repeat (first | exact (Kd.R_reads' HO156.out).2.2 | (with_reducible refine Kd.C_alloc ?_ _) | (with_reducible refine Kd.C_drewN ?_ _) | (with_reducible refine Kd.C_drew ?_)))
                  (case aB => exact (by repeat (first | (with_reducible first | exact HB.out | apply below_alloc | apply pw_below_drewN | apply below_drew1 | refine below_set ?_ GE119.out) | exact HB.out)))
                  (case aF => exact (fun k_ hk => ⟨Kd.fresh' (Kd.R_lt (by (with_reducible repeat (first | apply Kd.R_alloc | apply Kd.R_drewN | apply Kd.R_drew)); exact HO156.out)) k_ hk, Kd.freshB (g := gb119) (o := .cells #[.int .u64 a1_0, .int .i64 a1_1] 39 (0, 0)) (by (with_reducible repeat (first | refine blk_drewN ?_ _ | refine blk_drew ?_ | refine blk_alloc ?_ _)); exact BK119.out) k_ hk⟩))
                  (case aO => exact (by (with_reducible repeat (first | apply Kd.R_alloc | apply Kd.R_drewN | apply Kd.R_drew)); exact HO153.out))
                  (case aS => exact (below_size (by repeat (first | (with_reducible first | exact HB.out | apply below_alloc | apply pw_below_drewN | apply below_drew1 | refine below_set ?_ GE119.out) | exact HB.out))))
                  (case aL => have := LMc31.out; omega)
                  intro v158 w45 ho hb hg hat
                  rw [← Ny157.out] at ho
                  have n0_ := Aside0.mk (blk_grown (g := gb119) (o := .cells #[.int .u64 a1_0, .int .i64 a1_1] 39 (0, 0)) (by (with_reducible repeat (first | refine blk_drewN ?_ _ | refine blk_drew ?_ | refine blk_alloc ?_ _)); exact BK119.out) hg (Kd.R_away HO153.out (fun _ hk => hk.2)))
                  have n1_ := Aside0.mk (Kd.R_after (ok := (fun k_ => k_ ≠ gb119)) (by (with_reducible repeat (first | apply Kd.R_alloc | apply Kd.R_drewN | apply Kd.R_drew)); exact Kd.R_mono HO156.out (fun _ hk => ⟨hk.2, hk.1⟩)) hg hat)
                  have n2_ := Aside0.mk (hb)
                  have n3_ := Aside0.mk (ho)
                  clear BK119
                  clear HO156
                  clear HB
                  clear HO153
                  have BK119 := n0_
                  have HO156 := n1_
                  have HB := n2_
                  have HO159 := n3_
                  clear n0_ n1_ n2_ n3_
                  clear ho hb hg hat
                  refine hK.out _ _ ⟨(blk_cell BK119.out 0).trans rfl, (blk_cell BK119.out 1).trans rfl⟩ (fun hHeld => ?_)
                  clear hK K
                  refine norm_ (a' := ?_) ?_ ?_
                  rotate_left
                  · show Act.put _ (some 29) _ = _
                    simp only [Act.put, List.setIfInBounds_toArray, List.set_cons_zero, List.set_cons_succ, i64_w, i32_w]
                    rfl
                  refine one_ (i := 11) (N := some 33) #[true, true, true, true, true, true, true, true, true, true, true, true, false] rfl rfl (one_of HT_.out (by kernel_rfl)) (by decide) (fun K hK => ?_)
                  refine Kd.R_append_rows_step k39 (w0 := w) w.heap.size (by rfl) (.tmp 29) (.tmp 32) 25 39 (.agg #[(.int .u64 0), (.int .i64 0)]) 16 rfl Tryd.underlying25 info39 rfl (by decide) (by omega) v158 y157 y160 _ _ _ (fun k_ => some k_ ≠ (.slice Ao46 y154.length co46 : Value).ownBlock ∧ k_ ≠ gb119) (fun _ => False) rfl rfl ?aO ?aR (fun _ _ h => h) (fun _ h => h.elim) ?aF ?aB ?aS ?aL ?_
                  (case aR => repeat (first | exact (Kd.C_below HR163.out HB.out) | (with_reducible refine Kd.C_alloc ?_ _) | (with_reducible refine Kd.C_drewN ?_ _) | (with_reducible refine Kd.C_drew ?_)))
                  (case aB => exact (by repeat (first | (with_reducible first | exact HB.out | apply below_alloc | apply pw_below_drewN | apply below_drew1 | refine below_set ?_ GE119.out) | exact HB.out)))
                  (case aF => exact (fun k_ hk => ⟨Kd.fresh' (Kd.R_lt (by (with_reducible repeat (first | apply Kd.R_alloc | apply Kd.R_drewN | apply Kd.R_drew)); exact HO156.out)) k_ hk, Kd.freshB (g := gb119) (o := .cells #[.int .u64 a1_0, .int .i64 a1_1] 39 (0, 0)) (by (with_reducible repeat (first | refine blk_drewN ?_ _ | refine blk_drew ?_ | refine blk_alloc ?_ _)); exact BK119.out) k_ hk⟩))
                  (case aO => exact (by (with_reducible repeat (first | apply Kd.R_alloc | apply Kd.R_drewN | apply Kd.R_drew)); exact HO159.out))
                  (case aS => exact (below_size (by repeat (first | (with_reducible first | exact HB.out | apply below_alloc | apply pw_below_drewN | apply below_drew1 | refine below_set ?_ GE119.out) | exact HB.out))))
                  (case aL => have := LMc34.out; omega)
                  intro v165 w47 ho hb hg hat
                  rw [← Ny164.out] at ho
                  have n0_ := Aside0.mk (blk_grown (g := gb119) (o := .cells #[.int .u64 a1_0, .int .i64 a1_1] 39 (0, 0)) (by (with_reducible repeat (first | refine blk_drewN ?_ _ | refine blk_drew ?_ | refine blk_alloc ?_ _)); exact BK119.out) hg (Kd.R_away HO159.out (fun _ hk => hk.2)))
                  have n1_ := Aside0.mk (Kd.R_after (ok := (fun k_ => k_ ≠ gb119)) (by (with_reducible repeat (first | apply Kd.R_alloc | apply Kd.R_drewN | apply Kd.R_drew)); exact HO156.out) hg hat)
                  have n2_ := Aside0.mk (hb)
                  have n3_ := Aside0.mk (ho)
                  clear BK119
                  clear HO156
                  clear HB
                  clear HO159
                  have BK119 := n0_
                  have HO156 := n1_
                  have HB := n2_
                  have HO166 := n3_
                  clear n0_ n1_ n2_ n3_
                  clear ho hb hg hat
                  refine hK.out _ _ ⟨(blk_cell BK119.out 0).trans rfl, (blk_cell BK119.out 1).trans rfl⟩ (fun hHeld => ?_)
                  clear hK K
                  refine norm_ (a' := ?_) ?_ ?_
                  rotate_left
                  · show Act.put _ (some 33) _ = _
                    simp only [Act.put, List.setIfInBounds_toArray, List.set_cons_zero, List.set_cons_succ, i64_w, i32_w]
                    rfl
                  refine pure_ (i := 12) (N := some 4) (v := ?_) (a' := ?_) #[true, true, true, true, true, true, true, true, true, true, true, true, true] rfl rfl (any_of HT_.out (by kernel_rfl)) (fun _ _ _ h => h) (Or.inl ⟨by rfl, ?_⟩) ?_ ?_
                  rotate_left
                  · intro w'
                    go_simp
                    with_reducible rfl
                  rotate_left
                  · simp only [Act.put, List.setIfInBounds_toArray, List.set_cons_zero, List.set_cons_succ, i64_w, i32_w]
                    rfl
                  refine done_ (done_of HT_.out (by kernel_rfl)) ?_
                  try go_wp2
                  go_ret
                  exact ⟨_, by first | rfl | (simp [errW_none, errW_some] <;> rfl) | (simp [*, errW_none, errW_some] <;> rfl), by (with_reducible repeat (first | apply Kd.R_alloc | apply Kd.R_drewN | apply Kd.R_drew)); exact Kd.R_mono HO166.out (fun _ hk => trivial), by repeat (first | (with_reducible first | exact HB.out | apply below_alloc | apply pw_below_drewN | apply below_drew1 | refine below_set ?_ GE119.out) | exact HB.out)⟩
                · rw [if_neg c34] at H
                  exact absurd H (by simp)
              · rw [if_neg c31] at H
                exact absurd H (by simp)
            · rw [if_neg c30] at H
              exact absurd H (by simp)
          · rw [if_neg c29] at H
            exact absurd H (by simp)
        · rw [if_neg c28] at H
          exact absurd H (by simp)


end Go.Proofs.YtnkjlfadegjjoaaDoor.WhQ
