-- Written by hprint.py (this session's program, over the kit's printing program, with this session's own contracts in it). Not trusted: Lean checks it.
import Derived.Test.YtnkjlfadegjjoaaDoorProg
import Derived.Below
import Derived.Deep.Draws
import Derived.Deep.AppendLies
import Derived.Maps.AppendAt
import Derived.OwnWalk
import Derived.Laws.BytesArg
import Derived.Laws.MakeOwn
import Derived.Laws.OwnMore
import Derived.Deep.OwnRows
import Derived.Tactics
import Derived.Lib.ConvBytes
import Derived.Laws.Slices
import Derived.WalkKit
import Derived.KernelRfl
import Derived.RowKit3
import Derived.Deep.LoopGhost
import Derived.Deep.QuietTactic
import Derived.BigQuiet
import Derived.WideLaws
import Derived.Deep.DeepCutAuto
import Derived.Deep.CutBlock
import Derived.Deep.RegionHeld3
import Derived.Laws.Rows
import Derived.Lib.AppendStr
import Derived.ArgAppend
import Derived.Laws.IdiomCopy
import Derived.OrdersHeld
import Derived.Laws.BitsLemmas
import Derived.RowKit
import Derived.Test.YtnkjlfadegjjoaaDoorWhF
import Derived.Test.YtnkjlfadegjjoaaDoorRoad
import Derived.Test.YtnkjlfadegjjoaaDoorWWords
import Derived.Test.YtnkjlfadegjjoaaDoorWLast
import Derived.Test.YtnkjlfadegjjoaaDoorWTab
import Derived.Test.YtnkjlfadegjjoaaDoorWFour
import Derived.Test.YtnkjlfadegjjoaaDoorWQPut
import Derived.Test.YtnkjlfadegjjoaaDoorWApart
import Derived.Test.YtnkjlfadegjjoaaDoorWArr
import Derived.Test.YtnkjlfadegjjoaaDoorWZeros
import Derived.Test.YtnkjlfadegjjoaaDoorWFoot
import Derived.Test.YtnkjlfadegjjoaaDoorWKept
import Derived.Test.YtnkjlfadegjjoaaDoorWShare
import Derived.Test.YtnkjlfadegjjoaaDoorWN
import Derived.Test.YtnkjlfadegjjoaaDoorWFootNe
import Derived.Test.YtnkjlfadegjjoaaDoorWAt
import Derived.Test.YtnkjlfadegjjoaaDoorWEqStruct
import Derived.Test.YtnkjlfadegjjoaaDoorWRepsOne
import Derived.Test.YtnkjlfadegjjoaaDoorWInv
import Derived.Test.YtnkjlfadegjjoaaDoorWInvWords
import Derived.Test.YtnkjlfadegjjoaaDoorWGuard
import Derived.Test.YtnkjlfadegjjoaaDoorWNEv
import Derived.Test.YtnkjlfadegjjoaaDoorWMore
namespace Go.Proofs.YtnkjlfadegjjoaaDoor.PFnWheelBack
open Go.RowKit Go.Proofs.YtnkjlfadegjjoaaDoorW.PrintWords Go.Proofs.YtnkjlfadegjjoaaDoorW.PrintLast Go.Proofs.YtnkjlfadegjjoaaDoorW.PrintMore
attribute [local go_sem] max2_int min2_int max_two min_two max_three min_three max_four min_four   -- for this text's walks alone
set_option linter.unusedVariables false
set_option linter.unusedSimpArgs false



def errW : Option Int → Value
  | none => .nilIface
  | some c => .iface 0 (.int .i64 c)
theorem errW_none : errW none = .nilIface := rfl
theorem errW_some (c : Int) : errW (some c) = .iface 0 (.int .i64 c) := rfl

theorem info5 : (Tryd.prog.info? 5).map (fun i => (i.zero, i.size, i.bytes)) = some (some (.int .u8 0), 1, 1) := by kernel_rfl
theorem info34 : (Tryd.prog.info? 34).map (fun i => (i.zero, i.size, i.bytes)) = some (some (.agg #[(.int .i64 0), (.int .u64 0), (.int .i64 0), (.int .i64 0), (.bool false)]), 5, 40) := by kernel_rfl
theorem info37 : (Tryd.prog.info? 37).map (fun i => (i.zero, i.size, i.bytes)) = some (some (.agg #[(.int .i64 0), (.slice none 0 0)]), 2, 32) := by kernel_rfl
theorem info39 : (Tryd.prog.info? 39).map (fun i => (i.zero, i.size, i.bytes)) = some (some (.agg #[(.int .u64 0), (.int .i64 0)]), 2, 16) := by kernel_rfl
-- the values' own types
/-! #### struct type 39 -/
structure S39 where
  f0 : Int
  f1 : Int
def z39 : S39 := ⟨(0 : Int), (0 : Int)⟩
def k39 : Kd S39 := Kd.iso (Kd.pair (Kd.int .u64) (Kd.int .i64)) (fun x : S39 => (x.f0, x.f1))
theorem k39_open {w : World} {x : S39} {cs : List Value} (h : k39.K w x cs) : cs = [.int .u64 x.f0, .int .i64 x.f1] := by
  obtain ⟨_, _, rfl, rfl, rfl⟩ := h
  exact rfl
theorem k39_openM {w : World} {base : Nat} {ok : Nat → Prop} {x : S39} {cs : List Value} (h : k39.M w base ok x cs) : cs = [.int .u64 x.f0, .int .i64 x.f1] := by
  obtain ⟨_, _, rfl, rfl, rfl⟩ := h
  exact rfl
theorem k39_mk (w : World) (x : S39)  : k39.K w x [.int .u64 x.f0, .int .i64 x.f1] := ⟨[.int .u64 x.f0], [.int .i64 x.f1], rfl, rfl, rfl⟩
theorem k39_mkM (w : World) (base : Nat) (ok : Nat → Prop) (x : S39)  : k39.M w base ok x [.int .u64 x.f0, .int .i64 x.f1] := ⟨[.int .u64 x.f0], [.int .i64 x.f1], rfl, rfl, rfl⟩
def rd_T39 (xs : List S39) (i : Int) : S39 := xs.getD i.toNat z39
theorem at_T39 {w : World} {A : Option Addr} {n : Nat} {xs : List S39} (h : Kd.C k39 w A n xs) (i : Int) (h0 : 0 ≤ i) (h1 : i < n) : ∃ ad , A = some ad ∧ w.cell? (ad.add (i.toNat * 2)) = some (.int .u64 (rd_T39 xs i).f0) ∧ w.cell? ⟨(ad.add (i.toNat * 2)).block, (ad.add (i.toNat * 2)).off + 1, none⟩ = some (.int .i64 (rd_T39 xs i).f1) := by
  obtain ⟨ad, c, e, _, hK, hc0⟩ := Kd.C_get h z39 i h0 h1
  have hc : ∀ j u, c[j]? = some u → w.cell? (ad.add (i.toNat * 2 + j)) = some u := hc0
  obtain rfl := k39_open hK
  exact ⟨ad, e, hc 0 _ rfl, by rw [← add_field _ _ 1 (by omega)]; exact hc 1 _ rfl⟩

/-! #### struct type 34 -/
structure S34 where
  f0 : Int
  f1 : Int
  f2 : Int
  f3 : Int
  f4 : Bool
def z34 : S34 := ⟨(0 : Int), (0 : Int), (0 : Int), (0 : Int), false⟩
def k34 : Kd S34 := Kd.iso (Kd.pair (Kd.int .i64) (Kd.pair (Kd.int .u64) (Kd.pair (Kd.int .i64) (Kd.pair (Kd.int .i64) Kd.bool)))) (fun x : S34 => (x.f0, x.f1, x.f2, x.f3, x.f4))
theorem k34_open {w : World} {x : S34} {cs : List Value} (h : k34.K w x cs) : cs = [.int .i64 x.f0, .int .u64 x.f1, .int .i64 x.f2, .int .i64 x.f3, .bool x.f4] := by
  obtain ⟨_, _, rfl, rfl, ⟨_, _, rfl, rfl, ⟨_, _, rfl, rfl, ⟨_, _, rfl, rfl, rfl⟩⟩⟩⟩ := h
  exact rfl
theorem k34_openM {w : World} {base : Nat} {ok : Nat → Prop} {x : S34} {cs : List Value} (h : k34.M w base ok x cs) : cs = [.int .i64 x.f0, .int .u64 x.f1, .int .i64 x.f2, .int .i64 x.f3, .bool x.f4] := by
  obtain ⟨_, _, rfl, rfl, ⟨_, _, rfl, rfl, ⟨_, _, rfl, rfl, ⟨_, _, rfl, rfl, rfl⟩⟩⟩⟩ := h
  exact rfl
theorem k34_mk (w : World) (x : S34)  : k34.K w x [.int .i64 x.f0, .int .u64 x.f1, .int .i64 x.f2, .int .i64 x.f3, .bool x.f4] := ⟨[.int .i64 x.f0], [.int .u64 x.f1, .int .i64 x.f2, .int .i64 x.f3, .bool x.f4], rfl, rfl, ⟨[.int .u64 x.f1], [.int .i64 x.f2, .int .i64 x.f3, .bool x.f4], rfl, rfl, ⟨[.int .i64 x.f2], [.int .i64 x.f3, .bool x.f4], rfl, rfl, ⟨[.int .i64 x.f3], [.bool x.f4], rfl, rfl, rfl⟩⟩⟩⟩
theorem k34_mkM (w : World) (base : Nat) (ok : Nat → Prop) (x : S34)  : k34.M w base ok x [.int .i64 x.f0, .int .u64 x.f1, .int .i64 x.f2, .int .i64 x.f3, .bool x.f4] := ⟨[.int .i64 x.f0], [.int .u64 x.f1, .int .i64 x.f2, .int .i64 x.f3, .bool x.f4], rfl, rfl, ⟨[.int .u64 x.f1], [.int .i64 x.f2, .int .i64 x.f3, .bool x.f4], rfl, rfl, ⟨[.int .i64 x.f2], [.int .i64 x.f3, .bool x.f4], rfl, rfl, ⟨[.int .i64 x.f3], [.bool x.f4], rfl, rfl, rfl⟩⟩⟩⟩
def rd_T34 (xs : List S34) (i : Int) : S34 := xs.getD i.toNat z34
theorem at_T34 {w : World} {A : Option Addr} {n : Nat} {xs : List S34} (h : Kd.C k34 w A n xs) (i : Int) (h0 : 0 ≤ i) (h1 : i < n) : ∃ ad , A = some ad ∧ w.cell? (ad.add (i.toNat * 5)) = some (.int .i64 (rd_T34 xs i).f0) ∧ w.cell? ⟨(ad.add (i.toNat * 5)).block, (ad.add (i.toNat * 5)).off + 1, none⟩ = some (.int .u64 (rd_T34 xs i).f1) ∧ w.cell? ⟨(ad.add (i.toNat * 5)).block, (ad.add (i.toNat * 5)).off + 2, none⟩ = some (.int .i64 (rd_T34 xs i).f2) ∧ w.cell? ⟨(ad.add (i.toNat * 5)).block, (ad.add (i.toNat * 5)).off + 3, none⟩ = some (.int .i64 (rd_T34 xs i).f3) ∧ w.cell? ⟨(ad.add (i.toNat * 5)).block, (ad.add (i.toNat * 5)).off + 4, none⟩ = some (.bool (rd_T34 xs i).f4) := by
  obtain ⟨ad, c, e, _, hK, hc0⟩ := Kd.C_get h z34 i h0 h1
  have hc : ∀ j u, c[j]? = some u → w.cell? (ad.add (i.toNat * 5 + j)) = some u := hc0
  obtain rfl := k34_open hK
  exact ⟨ad, e, hc 0 _ rfl, by rw [← add_field _ _ 1 (by omega)]; exact hc 1 _ rfl, by rw [← add_field _ _ 2 (by omega)]; exact hc 2 _ rfl, by rw [← add_field _ _ 3 (by omega)]; exact hc 3 _ rfl, by rw [← add_field _ _ 4 (by omega)]; exact hc 4 _ rfl⟩

def rd_L5 (xs : List (List S39)) (i : Int) : (List S39) := xs.getD i.toNat ([] : List S39)
theorem at_L5 {w : World} {A : Option Addr} {n : Nat} {xs : List (List S39)} (h : Kd.C (Kd.slice 39 k39) w A n xs) (i : Int) (h0 : 0 ≤ i) (h1 : i < n) : ∃ ad A0 c0, A = some ad ∧ w.cell? (ad.add i.toNat) = some (.slice A0 (rd_L5 xs i).length c0) ∧ (rd_L5 xs i).length ≤ c0 ∧ k39.C w A0 (rd_L5 xs i).length (rd_L5 xs i) := by
  obtain ⟨ad, c, e, _, hK, hc0⟩ := Kd.C_get h ([] : List S39) i h0 h1
  have hc : ∀ j u, c[j]? = some u → w.cell? (ad.add (i.toNat * 1 + j)) = some u := hc0
  obtain ⟨A0, c0, rfl, l0, g0⟩ := hK
  exact ⟨ad, A0, c0, e, by have hq := hc 0 _ rfl; rwa [Nat.mul_one, Nat.add_zero] at hq, l0, g0⟩

/-! #### struct type 37 -/
structure S37 where
  f0 : Int
  f1 : (List S39)
def z37 : S37 := ⟨(0 : Int), ([] : List S39)⟩
def k37 : Kd S37 := Kd.iso (Kd.pair (Kd.int .i64) (Kd.slice 39 k39)) (fun x : S37 => (x.f0, x.f1))
theorem k37_open {w : World} {x : S37} {cs : List Value} (h : k37.K w x cs) : ∃ A1 c1, cs = [.int .i64 x.f0, .slice A1 x.f1.length c1] ∧ x.f1.length ≤ c1 ∧ k39.C w A1 x.f1.length x.f1 := by
  obtain ⟨_, _, rfl, rfl, ⟨A1, c1, rfl, l1, g1⟩⟩ := h
  exact ⟨A1, c1, rfl, l1, g1⟩
theorem k37_openM {w : World} {base : Nat} {ok : Nat → Prop} {x : S37} {cs : List Value} (h : k37.M w base ok x cs) : ∃ v1, cs = [.int .i64 x.f0, v1] ∧ k39.R 39 w base ok v1 x.f1 := by
  obtain ⟨_, _, rfl, rfl, ⟨v1, rfl, g1⟩⟩ := h
  exact ⟨v1, rfl, g1⟩
theorem k37_mk (w : World) (x : S37) {A1 : Option Addr} {c1 : Nat} (l1 : x.f1.length ≤ c1) (g1 : k39.C w A1 x.f1.length x.f1) : k37.K w x [.int .i64 x.f0, .slice A1 x.f1.length c1] := ⟨[.int .i64 x.f0], [.slice A1 x.f1.length c1], rfl, rfl, ⟨A1, c1, rfl, l1, g1⟩⟩
theorem k37_mkM (w : World) (base : Nat) (ok : Nat → Prop) (x : S37) {v1 : Value} (g1 : k39.R 39 w base ok v1 x.f1) : k37.M w base ok x [.int .i64 x.f0, v1] := ⟨[.int .i64 x.f0], [v1], rfl, rfl, ⟨v1, rfl, g1⟩⟩
def rd_T37 (xs : List S37) (i : Int) : S37 := xs.getD i.toNat z37
theorem at_T37 {w : World} {A : Option Addr} {n : Nat} {xs : List S37} (h : Kd.C k37 w A n xs) (i : Int) (h0 : 0 ≤ i) (h1 : i < n) : ∃ ad A1 c1, A = some ad ∧ w.cell? (ad.add (i.toNat * 2)) = some (.int .i64 (rd_T37 xs i).f0) ∧ w.cell? ⟨(ad.add (i.toNat * 2)).block, (ad.add (i.toNat * 2)).off + 1, none⟩ = some (.slice A1 (rd_T37 xs i).f1.length c1) ∧ (rd_T37 xs i).f1.length ≤ c1 ∧ k39.C w A1 (rd_T37 xs i).f1.length (rd_T37 xs i).f1 := by
  obtain ⟨ad, c, e, _, hK, hc0⟩ := Kd.C_get h z37 i h0 h1
  have hc : ∀ j u, c[j]? = some u → w.cell? (ad.add (i.toNat * 2 + j)) = some u := hc0
  obtain ⟨A1, c1, rfl, l1, g1⟩ := k37_open hK
  exact ⟨ad, A1, c1, e, hc 0 _ rfl, by rw [← add_field _ _ 1 (by omega)]; exact hc 1 _ rfl, l1, g1⟩

def rd_L8 (xs : List (List S34)) (i : Int) : (List S34) := xs.getD i.toNat ([] : List S34)
theorem at_L8 {w : World} {A : Option Addr} {n : Nat} {xs : List (List S34)} (h : Kd.C (Kd.slice 34 k34) w A n xs) (i : Int) (h0 : 0 ≤ i) (h1 : i < n) : ∃ ad A0 c0, A = some ad ∧ w.cell? (ad.add i.toNat) = some (.slice A0 (rd_L8 xs i).length c0) ∧ (rd_L8 xs i).length ≤ c0 ∧ k34.C w A0 (rd_L8 xs i).length (rd_L8 xs i) := by
  obtain ⟨ad, c, e, _, hK, hc0⟩ := Kd.C_get h ([] : List S34) i h0 h1
  have hc : ∀ j u, c[j]? = some u → w.cell? (ad.add (i.toNat * 1 + j)) = some u := hc0
  obtain ⟨A0, c0, rfl, l0, g0⟩ := hK
  exact ⟨ad, A0, c0, e, by have hq := hc 0 _ rfl; rwa [Nat.mul_one, Nat.add_zero] at hq, l0, g0⟩

end Go.Proofs.YtnkjlfadegjjoaaDoor.PFnWheelBack
