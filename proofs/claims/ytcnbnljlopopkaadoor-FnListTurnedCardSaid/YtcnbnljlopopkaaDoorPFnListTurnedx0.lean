-- Written by hprint.py (this session's program, over the kit's printing program, with this session's own contracts in it). Not trusted: Lean checks it.
import Derived.Test.YtcnbnljlopopkaaDoorProg
import Derived.Below
import Derived.Deep.Draws
import Derived.Deep.AppendLies
import Derived.Maps.AppendAt
import Derived.OwnWalk
import Derived.Laws.BytesArg
import Derived.Laws.MakeOwn
import Derived.Laws.OwnMore
import Derived.Deep.OwnRows
import Derived.Tactics
import Derived.Lib.ConvBytes
import Derived.Laws.Slices
import Derived.WalkKit
import Derived.KernelRfl
import Derived.RowKit3
import Derived.Deep.LoopGhost
import Derived.Deep.QuietTactic
import Derived.BigQuiet
import Derived.WideLaws
import Derived.Deep.DeepCutAuto
import Derived.Deep.CutBlock
import Derived.Deep.RegionHeld3
import Derived.Laws.Rows
import Derived.Lib.AppendStr
import Derived.ArgAppend
import Derived.Laws.IdiomCopy
import Derived.OrdersHeld
import Derived.Laws.BitsLemmas
import Derived.RowKit
import Derived.Test.YtcnbnljlopopkaaDoorLsD
import Derived.Test.YtcnbnljlopopkaaDoorLsE
import Derived.Test.YtcnbnljlopopkaaDoorRunes
import Derived.Test.YtcnbnljlopopkaaDoorRoad
import Derived.Test.YtcnbnljlopopkaaDoorWWords
import Derived.Test.YtcnbnljlopopkaaDoorWLast
import Derived.Test.YtcnbnljlopopkaaDoorWTab
import Derived.Test.YtcnbnljlopopkaaDoorWFour
import Derived.Test.YtcnbnljlopopkaaDoorWQPut
import Derived.Test.YtcnbnljlopopkaaDoorWApart
import Derived.Test.YtcnbnljlopopkaaDoorWArr
import Derived.Test.YtcnbnljlopopkaaDoorWZeros
import Derived.Test.YtcnbnljlopopkaaDoorWFoot
import Derived.Test.YtcnbnljlopopkaaDoorWKept
import Derived.Test.YtcnbnljlopopkaaDoorWShare
import Derived.Test.YtcnbnljlopopkaaDoorWN
import Derived.Test.YtcnbnljlopopkaaDoorWFootNe
import Derived.Test.YtcnbnljlopopkaaDoorWAt
import Derived.Test.YtcnbnljlopopkaaDoorWEqStruct
import Derived.Test.YtcnbnljlopopkaaDoorWRepsOne
import Derived.Test.YtcnbnljlopopkaaDoorWInv
import Derived.Test.YtcnbnljlopopkaaDoorWInvWords
import Derived.Test.YtcnbnljlopopkaaDoorWGuard
import Derived.Test.YtcnbnljlopopkaaDoorWNEv
import Derived.Test.YtcnbnljlopopkaaDoorWMore
namespace Go.Proofs.YtcnbnljlopopkaaDoor.PFnListTurned
open Go.RowKit Go.Proofs.YtcnbnljlopopkaaDoorW.PrintWords Go.Proofs.YtcnbnljlopopkaaDoorW.PrintLast Go.Proofs.YtcnbnljlopopkaaDoorW.PrintMore
attribute [local go_sem] max2_int min2_int max_two min_two max_three min_three max_four min_four   -- for this text's walks alone
set_option linter.unusedVariables false
set_option linter.unusedSimpArgs false



def errW : Option Int → Value
 | none => .nilIface
 | some c => .iface 0 (.int .i64 c)
theorem errW_none : errW none = .nilIface := rfl
theorem errW_some (c : Int) : errW (some c) = .iface 0 (.int .i64 c) := rfl

theorem info3 : (Tryd.prog.info? 3).map (fun i => (i.zero, i.size, i.bytes)) = some (some (.int .i64 0), 1, 8) := by kernel_rfl
theorem info9 : (Tryd.prog.info? 9).map (fun i => (i.zero, i.size, i.bytes)) = some (some (.string ⟨#[]⟩), 1, 16) := by kernel_rfl
theorem info31 : (Tryd.prog.info? 31).map (fun i => (i.zero, i.size, i.bytes)) = some (some (.agg #[(.string ⟨#[]⟩), (.int .i64 0)]), 2, 24) := by kernel_rfl
theorem info51 : (Tryd.prog.info? 51).map (fun i => (i.zero, i.size, i.bytes)) = some (some (.agg #[(.int .i64 0), (.string ⟨#[]⟩), (.int .i64 0)]), 3, 32) := by kernel_rfl
-- the values' own types
/-! #### struct type 51 -/
structure S51 where
 f0 : Int
 f1 : ByteArray
 f2 : Int
def z51 : S51 := ⟨(0 : Int), (⟨#[]⟩ : ByteArray), (0 : Int)⟩
def k51 : Kd S51 := Kd.iso (Kd.pair (Kd.int .i64) (Kd.pair Kd.string (Kd.int .i64))) (fun x : S51 => (x.f0, x.f1, x.f2))
theorem k51_open {w : World} {x : S51} {cs : List Value} (h : k51.K w x cs) : cs = [.int .i64 x.f0, .string x.f1, .int .i64 x.f2] := by
 obtain ⟨_, _, rfl, rfl, ⟨_, _, rfl, rfl, rfl⟩⟩ := h
 exact rfl
theorem k51_openM {w : World} {base : Nat} {ok : Nat → Prop} {x : S51} {cs : List Value} (h : k51.M w base ok x cs) : cs = [.int .i64 x.f0, .string x.f1, .int .i64 x.f2] := by
 obtain ⟨_, _, rfl, rfl, ⟨_, _, rfl, rfl, rfl⟩⟩ := h
 exact rfl
theorem k51_mk (w : World) (x : S51)  : k51.K w x [.int .i64 x.f0, .string x.f1, .int .i64 x.f2] := ⟨[.int .i64 x.f0], [.string x.f1, .int .i64 x.f2], rfl, rfl, ⟨[.string x.f1], [.int .i64 x.f2], rfl, rfl, rfl⟩⟩
theorem k51_mkM (w : World) (base : Nat) (ok : Nat → Prop) (x : S51)  : k51.M w base ok x [.int .i64 x.f0, .string x.f1, .int .i64 x.f2] := ⟨[.int .i64 x.f0], [.string x.f1, .int .i64 x.f2], rfl, rfl, ⟨[.string x.f1], [.int .i64 x.f2], rfl, rfl, rfl⟩⟩
def rd_T51 (xs : List S51) (i : Int) : S51 := xs.getD i.toNat z51
theorem at_T51 {w : World} {A : Option Addr} {n : Nat} {xs : List S51} (h : Kd.C k51 w A n xs) (i : Int) (h0 : 0 ≤ i) (h1 : i < n) : ∃ ad , A = some ad ∧ w.cell? (ad.add (i.toNat * 3)) = some (.int .i64 (rd_T51 xs i).f0) ∧ w.cell? ⟨(ad.add (i.toNat * 3)).block, (ad.add (i.toNat * 3)).off + 1, none⟩ = some (.string (rd_T51 xs i).f1) ∧ w.cell? ⟨(ad.add (i.toNat * 3)).block, (ad.add (i.toNat * 3)).off + 2, none⟩ = some (.int .i64 (rd_T51 xs i).f2) := by
 obtain ⟨ad, c, e, _, hK, hc0⟩ := Kd.C_get h z51 i h0 h1
 have hc : ∀ j u, c[j]? = some u → w.cell? (ad.add (i.toNat * 3 + j)) = some u := hc0
 obtain rfl := k51_open hK
 exact ⟨ad, e, hc 0 _ rfl, by rw [← add_field _ _ 1 (by omega)]; exact hc 1 _ rfl, by rw [← add_field _ _ 2 (by omega)]; exact hc 2 _ rfl⟩

def rd_L3 (xs : List (List S51)) (i : Int) : (List S51) := xs.getD i.toNat ([] : List S51)
theorem at_L3 {w : World} {A : Option Addr} {n : Nat} {xs : List (List S51)} (h : Kd.C (Kd.slice 51 k51) w A n xs) (i : Int) (h0 : 0 ≤ i) (h1 : i < n) : ∃ ad A0 c0, A = some ad ∧ w.cell? (ad.add i.toNat) = some (.slice A0 (rd_L3 xs i).length c0) ∧ (rd_L3 xs i).length ≤ c0 ∧ k51.C w A0 (rd_L3 xs i).length (rd_L3 xs i) := by
 obtain ⟨ad, c, e, _, hK, hc0⟩ := Kd.C_get h ([] : List S51) i h0 h1
 have hc : ∀ j u, c[j]? = some u → w.cell? (ad.add (i.toNat * 1 + j)) = some u := hc0
 obtain ⟨A0, c0, rfl, l0, g0⟩ := hK
 exact ⟨ad, A0, c0, e, by have hq := hc 0 _ rfl; rwa [Nat.mul_one, Nat.add_zero] at hq, l0, g0⟩

def rd_L4 (xs : List (List Int)) (i : Int) : (List Int) := xs.getD i.toNat ([] : List Int)
theorem at_L4 {w : World} {A : Option Addr} {n : Nat} {xs : List (List Int)} (h : Kd.C (Kd.slice 3 (Kd.int .i64)) w A n xs) (i : Int) (h0 : 0 ≤ i) (h1 : i < n) : ∃ ad A0 c0, A = some ad ∧ w.cell? (ad.add i.toNat) = some (.slice A0 (rd_L4 xs i).length c0) ∧ (rd_L4 xs i).length ≤ c0 ∧ (Kd.int .i64).C w A0 (rd_L4 xs i).length (rd_L4 xs i) := by
 obtain ⟨ad, c, e, _, hK, hc0⟩ := Kd.C_get h ([] : List Int) i h0 h1
 have hc : ∀ j u, c[j]? = some u → w.cell? (ad.add (i.toNat * 1 + j)) = some u := hc0
 obtain ⟨A0, c0, rfl, l0, g0⟩ := hK
 exact ⟨ad, A0, c0, e, by have hq := hc 0 _ rfl; rwa [Nat.mul_one, Nat.add_zero] at hq, l0, g0⟩

/-! #### struct type 31 -/
structure S31 where
 f0 : ByteArray
 f1 : Int
def z31 : S31 := ⟨(⟨#[]⟩ : ByteArray), (0 : Int)⟩
def k31 : Kd S31 := Kd.iso (Kd.pair Kd.string (Kd.int .i64)) (fun x : S31 => (x.f0, x.f1))
theorem k31_open {w : World} {x : S31} {cs : List Value} (h : k31.K w x cs) : cs = [.string x.f0, .int .i64 x.f1] := by
 obtain ⟨_, _, rfl, rfl, rfl⟩ := h
 exact rfl
theorem k31_openM {w : World} {base : Nat} {ok : Nat → Prop} {x : S31} {cs : List Value} (h : k31.M w base ok x cs) : cs = [.string x.f0, .int .i64 x.f1] := by
 obtain ⟨_, _, rfl, rfl, rfl⟩ := h
 exact rfl
theorem k31_mk (w : World) (x : S31)  : k31.K w x [.string x.f0, .int .i64 x.f1] := ⟨[.string x.f0], [.int .i64 x.f1], rfl, rfl, rfl⟩
theorem k31_mkM (w : World) (base : Nat) (ok : Nat → Prop) (x : S31)  : k31.M w base ok x [.string x.f0, .int .i64 x.f1] := ⟨[.string x.f0], [.int .i64 x.f1], rfl, rfl, rfl⟩
def rd_T31 (xs : List S31) (i : Int) : S31 := xs.getD i.toNat z31
theorem at_T31 {w : World} {A : Option Addr} {n : Nat} {xs : List S31} (h : Kd.C k31 w A n xs) (i : Int) (h0 : 0 ≤ i) (h1 : i < n) : ∃ ad , A = some ad ∧ w.cell? (ad.add (i.toNat * 2)) = some (.string (rd_T31 xs i).f0) ∧ w.cell? ⟨(ad.add (i.toNat * 2)).block, (ad.add (i.toNat * 2)).off + 1, none⟩ = some (.int .i64 (rd_T31 xs i).f1) := by
 obtain ⟨ad, c, e, _, hK, hc0⟩ := Kd.C_get h z31 i h0 h1
 have hc : ∀ j u, c[j]? = some u → w.cell? (ad.add (i.toNat * 2 + j)) = some u := hc0
 obtain rfl := k31_open hK
 exact ⟨ad, e, hc 0 _ rfl, by rw [← add_field _ _ 1 (by omega)]; exact hc 1 _ rfl⟩

def rd_L6 (xs : List (List S31)) (i : Int) : (List S31) := xs.getD i.toNat ([] : List S31)
theorem at_L6 {w : World} {A : Option Addr} {n : Nat} {xs : List (List S31)} (h : Kd.C (Kd.slice 31 k31) w A n xs) (i : Int) (h0 : 0 ≤ i) (h1 : i < n) : ∃ ad A0 c0, A = some ad ∧ w.cell? (ad.add i.toNat) = some (.slice A0 (rd_L6 xs i).length c0) ∧ (rd_L6 xs i).length ≤ c0 ∧ k31.C w A0 (rd_L6 xs i).length (rd_L6 xs i) := by
 obtain ⟨ad, c, e, _, hK, hc0⟩ := Kd.C_get h ([] : List S31) i h0 h1
 have hc : ∀ j u, c[j]? = some u → w.cell? (ad.add (i.toNat * 1 + j)) = some u := hc0
 obtain ⟨A0, c0, rfl, l0, g0⟩ := hK
 exact ⟨ad, A0, c0, e, by have hq := hc 0 _ rfl; rwa [Nat.mul_one, Nat.add_zero] at hq, l0, g0⟩

end Go.Proofs.YtcnbnljlopopkaaDoor.PFnListTurned

-- thin
