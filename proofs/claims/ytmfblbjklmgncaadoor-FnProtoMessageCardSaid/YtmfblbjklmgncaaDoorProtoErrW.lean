/- WALKS: numbers that are none: the error is a package variable's. -/
import Derived.Test.YtmfblbjklmgncaaDoorProg
import Derived.Below
import Derived.Deep.Draws
import Derived.Deep.AppendLies
import Derived.Maps.AppendAt
import Derived.OwnWalk
import Derived.Laws.BytesArg
import Derived.Laws.MakeOwn
import Derived.Laws.OwnMore
import Derived.Deep.OwnRows
import Derived.Tactics
import Derived.Lib.ConvBytes
import Derived.Laws.Slices
import Derived.WalkKit
import Derived.KernelRfl
import Derived.RowKit3
import Derived.Deep.LoopGhost
import Derived.Deep.QuietTactic
import Derived.BigQuiet
import Derived.WideLaws
import Derived.Deep.DeepCutAuto
import Derived.Deep.CutBlock
import Derived.Deep.RegionHeld3
import Derived.Laws.Rows
import Derived.Lib.AppendStr
import Derived.ArgAppend
import Derived.Laws.IdiomCopy
import Derived.OrdersHeld
import Derived.Laws.BitsLemmas
import Derived.RowKit
import Derived.Test.YtmfblbjklmgncaaDoorProtoW
import Derived.Test.YtmfblbjklmgncaaDoorRoad
import Derived.Test.YtmfblbjklmgncaaDoorWWords
import Derived.Test.YtmfblbjklmgncaaDoorWLast
import Derived.Test.YtmfblbjklmgncaaDoorWTab
import Derived.Test.YtmfblbjklmgncaaDoorWFour
import Derived.Test.YtmfblbjklmgncaaDoorWQPut
import Derived.Test.YtmfblbjklmgncaaDoorWApart
import Derived.Test.YtmfblbjklmgncaaDoorWArr
import Derived.Test.YtmfblbjklmgncaaDoorWZeros
import Derived.Test.YtmfblbjklmgncaaDoorWFoot
import Derived.Test.YtmfblbjklmgncaaDoorWKept
import Derived.Test.YtmfblbjklmgncaaDoorWShare
import Derived.Test.YtmfblbjklmgncaaDoorWN
import Derived.Test.YtmfblbjklmgncaaDoorWFootNe
import Derived.Test.YtmfblbjklmgncaaDoorWAt
import Derived.Test.YtmfblbjklmgncaaDoorWEqStruct
import Derived.Test.YtmfblbjklmgncaaDoorWRepsOne
import Derived.Test.YtmfblbjklmgncaaDoorWInv
import Derived.Test.YtmfblbjklmgncaaDoorWInvWords
import Derived.Test.YtmfblbjklmgncaaDoorWGuard
import Derived.Test.YtmfblbjklmgncaaDoorWNEv
import Derived.Test.YtmfblbjklmgncaaDoorWMore
import Derived.StillTailTactics
import Derived.OneCell
import Derived.RegionTactic
import Derived.Lib.EndianBits
namespace Go.Proofs.YtmfblbjklmgncaaDoor.ProtoErrW
open Go.RowKit Go.Proofs.YtmfblbjklmgncaaDoorW.PrintWords Go.Proofs.YtmfblbjklmgncaaDoorW.PrintLast Go.Proofs.YtmfblbjklmgncaaDoorW.PrintMore
attribute [local go_sem] max2_int min2_int max_two min_two max_three min_three max_four min_four   -- for this text's walks alone
set_option linter.unusedVariables false
set_option linter.unusedSimpArgs false



open ProtoW
/-- The two errors' variables hold something. -/
structure ErrLaid (w : World) : Prop where
  a : ∃ t v, w.cell? ⟨0, 0, none⟩ = some (.iface t v)
  b : ∃ t v, w.cell? ⟨1, 0, none⟩ = some (.iface t v)
theorem ErrLaid.below {w0 w : World} (h : ErrLaid w0) (hb : Below w0.heap.size w0 w) : ErrLaid w := by
  have key : ∀ (k : Nat) (u : Value), w0.cell? ⟨k, 0, none⟩ = some u → w.cell? ⟨k, 0, none⟩ = some u := fun k u hu => by
    have hlt : k < w0.heap.size := by
      by_cases hk : k < w0.heap.size
      · exact hk
      · simp [World.cell?, Array.getElem?_eq_none (Nat.le_of_not_lt hk)] at hu
    simpa only [World.cell?, hb.block k hlt] using hu
  obtain ⟨⟨t, v, ha⟩, ⟨t', v', hb'⟩⟩ := h
  exact ⟨⟨t, v, key _ _ ha⟩, ⟨t', v', key _ _ hb'⟩⟩
set_option maxHeartbeats 8000000 in
set_option maxRecDepth 100000 in
theorem scan_err0 (A : Option Addr) (c : Nat) (w : World) (t : TypeId) (u : Value) (hg : w.cell? ⟨0, 0, none⟩ = some (.iface t u)) :
    Calls Tryd.prog 52 #[.slice A 0 c] w fun e w' => e = .returned (.tuple #[.int .u64 0, .int .i64 0, .iface t u]) ∧ Below w.heap.size w w' := by
  go_enter Tryd.func52, Tryd.ntmps52
  go_wp2_with fail
  go_quiet (fail)
  go_wp2_with fail
  go_ret3
  refine ⟨rfl, ?_⟩
  first | exact Below.refl _ _ | exact below_drew (Below.refl _ _) | exact pw_below_drewN (Below.refl _ _) _
set_option maxHeartbeats 8000000 in
set_option maxRecDepth 100000 in
theorem scan_err1 (ad : Addr) (c : Nat) (b0 : Int) (w : World) (t : TypeId) (u : Value) (hg : w.cell? ⟨0, 0, none⟩ = some (.iface t u))
    (k0 : w.cell? (ad.add 0) = some (.int .u8 b0))
    (h0 : 128 ≤ b0) (g0 : b0 < 256) :
    Calls Tryd.prog 52 #[.slice (some ad) 1 c] w fun e w' => e = .returned (.tuple #[.int .u64 0, .int .i64 0, .iface t u]) ∧ Below w.heap.size w w' := by
  have w0 : IntKind.u64.wrap b0 = b0 := by rw [IntKind.wrap_u64]; omega
  obtain ⟨a1, ha1⟩ : ∃ x, x = b0 - 128 := ⟨_, rfl⟩
  have s1 : IntKind.u64.wrap (b0 - 128) = a1 := by rw [IntKind.wrap_u64]; omega
  have d0 : decide (b0 < 128) = false := decide_eq_false (by omega)
  have kk0 := k0
  rw [add_zero_] at kk0
  clear h0 g0 ha1
  go_enter Tryd.func52, Tryd.ntmps52
  go_wp2_with fail
  go_quiet (fail)
  go_wp2_with fail
  go_ret3
  refine ⟨rfl, ?_⟩
  first | exact Below.refl _ _ | exact below_drew (Below.refl _ _) | exact pw_below_drewN (Below.refl _ _) _
set_option maxHeartbeats 8000000 in
set_option maxRecDepth 100000 in
theorem scan_err2 (ad : Addr) (c : Nat) (b0 b1 : Int) (w : World) (t : TypeId) (u : Value) (hg : w.cell? ⟨0, 0, none⟩ = some (.iface t u))
    (k0 : w.cell? (ad.add 0) = some (.int .u8 b0))
    (k1 : w.cell? (ad.add 1) = some (.int .u8 b1))
    (h0 : 128 ≤ b0) (g0 : b0 < 256)
    (h1 : 128 ≤ b1) (g1 : b1 < 256) :
    Calls Tryd.prog 52 #[.slice (some ad) 2 c] w fun e w' => e = .returned (.tuple #[.int .u64 0, .int .i64 0, .iface t u]) ∧ Below w.heap.size w w' := by
  have w0 : IntKind.u64.wrap b0 = b0 := by rw [IntKind.wrap_u64]; omega
  have w1 : IntKind.u64.wrap b1 = b1 := by rw [IntKind.wrap_u64]; omega
  obtain ⟨a1, ha1⟩ : ∃ x, x = b0 - 128 := ⟨_, rfl⟩
  have s1 : IntKind.u64.wrap (b0 - 128) = a1 := by rw [IntKind.wrap_u64]; omega
  obtain ⟨y1, hy1⟩ : ∃ x, x = b1 * 128 := ⟨_, rfl⟩
  have t1 : IntKind.u64.wrap (b1 * 128) = y1 := by rw [IntKind.wrap_u64]; omega
  obtain ⟨v1, hv1⟩ : ∃ x, x = a1 + y1 := ⟨_, rfl⟩
  have u1 : IntKind.u64.wrap (a1 + y1) = v1 := by rw [IntKind.wrap_u64]; omega
  obtain ⟨a2, ha2⟩ : ∃ x, x = v1 - 16384 := ⟨_, rfl⟩
  have s2 : IntKind.u64.wrap (v1 - 16384) = a2 := by rw [IntKind.wrap_u64]; omega
  have d0 : decide (b0 < 128) = false := decide_eq_false (by omega)
  have d1 : decide (b1 < 128) = false := decide_eq_false (by omega)
  have kk0 := k0
  rw [add_zero_] at kk0
  have kk1 : w.cell? { block := ad.block, off := ad.off + 1 } = some (.int .u8 b1) := by simpa [Addr.add] using k1
  clear h0 g0 h1 g1 ha1 ha2 hy1 hv1
  go_enter Tryd.func52, Tryd.ntmps52
  go_wp2_with fail
  go_quiet (fail)
  go_wp2_with fail
  go_ret3
  refine ⟨rfl, ?_⟩
  first | exact Below.refl _ _ | exact below_drew (Below.refl _ _) | exact pw_below_drewN (Below.refl _ _) _
set_option maxHeartbeats 8000000 in
set_option maxRecDepth 100000 in
theorem scan_err3 (ad : Addr) (c : Nat) (b0 b1 b2 : Int) (w : World) (t : TypeId) (u : Value) (hg : w.cell? ⟨0, 0, none⟩ = some (.iface t u))
    (k0 : w.cell? (ad.add 0) = some (.int .u8 b0))
    (k1 : w.cell? (ad.add 1) = some (.int .u8 b1))
    (k2 : w.cell? (ad.add 2) = some (.int .u8 b2))
    (h0 : 128 ≤ b0) (g0 : b0 < 256)
    (h1 : 128 ≤ b1) (g1 : b1 < 256)
    (h2 : 128 ≤ b2) (g2 : b2 < 256) :
    Calls Tryd.prog 52 #[.slice (some ad) 3 c] w fun e w' => e = .returned (.tuple #[.int .u64 0, .int .i64 0, .iface t u]) ∧ Below w.heap.size w w' := by
  have w0 : IntKind.u64.wrap b0 = b0 := by rw [IntKind.wrap_u64]; omega
  have w1 : IntKind.u64.wrap b1 = b1 := by rw [IntKind.wrap_u64]; omega
  have w2 : IntKind.u64.wrap b2 = b2 := by rw [IntKind.wrap_u64]; omega
  obtain ⟨a1, ha1⟩ : ∃ x, x = b0 - 128 := ⟨_, rfl⟩
  have s1 : IntKind.u64.wrap (b0 - 128) = a1 := by rw [IntKind.wrap_u64]; omega
  obtain ⟨y1, hy1⟩ : ∃ x, x = b1 * 128 := ⟨_, rfl⟩
  have t1 : IntKind.u64.wrap (b1 * 128) = y1 := by rw [IntKind.wrap_u64]; omega
  obtain ⟨v1, hv1⟩ : ∃ x, x = a1 + y1 := ⟨_, rfl⟩
  have u1 : IntKind.u64.wrap (a1 + y1) = v1 := by rw [IntKind.wrap_u64]; omega
  obtain ⟨a2, ha2⟩ : ∃ x, x = v1 - 16384 := ⟨_, rfl⟩
  have s2 : IntKind.u64.wrap (v1 - 16384) = a2 := by rw [IntKind.wrap_u64]; omega
  obtain ⟨y2, hy2⟩ : ∃ x, x = b2 * 16384 := ⟨_, rfl⟩
  have t2 : IntKind.u64.wrap (b2 * 16384) = y2 := by rw [IntKind.wrap_u64]; omega
  obtain ⟨v2, hv2⟩ : ∃ x, x = a2 + y2 := ⟨_, rfl⟩
  have u2 : IntKind.u64.wrap (a2 + y2) = v2 := by rw [IntKind.wrap_u64]; omega
  obtain ⟨a3, ha3⟩ : ∃ x, x = v2 - 2097152 := ⟨_, rfl⟩
  have s3 : IntKind.u64.wrap (v2 - 2097152) = a3 := by rw [IntKind.wrap_u64]; omega
  have d0 : decide (b0 < 128) = false := decide_eq_false (by omega)
  have d1 : decide (b1 < 128) = false := decide_eq_false (by omega)
  have d2 : decide (b2 < 128) = false := decide_eq_false (by omega)
  have kk0 := k0
  rw [add_zero_] at kk0
  have kk1 : w.cell? { block := ad.block, off := ad.off + 1 } = some (.int .u8 b1) := by simpa [Addr.add] using k1
  have kk2 : w.cell? { block := ad.block, off := ad.off + 2 } = some (.int .u8 b2) := by simpa [Addr.add] using k2
  clear h0 g0 h1 g1 h2 g2 ha1 ha2 ha3 hy1 hv1 hy2 hv2
  go_enter Tryd.func52, Tryd.ntmps52
  go_wp2_with fail
  go_quiet (fail)
  go_wp2_with fail
  go_ret3
  refine ⟨rfl, ?_⟩
  first | exact Below.refl _ _ | exact below_drew (Below.refl _ _) | exact pw_below_drewN (Below.refl _ _) _
set_option maxHeartbeats 8000000 in
set_option maxRecDepth 100000 in
theorem scan_err4 (ad : Addr) (c : Nat) (b0 b1 b2 b3 : Int) (w : World) (t : TypeId) (u : Value) (hg : w.cell? ⟨0, 0, none⟩ = some (.iface t u))
    (k0 : w.cell? (ad.add 0) = some (.int .u8 b0))
    (k1 : w.cell? (ad.add 1) = some (.int .u8 b1))
    (k2 : w.cell? (ad.add 2) = some (.int .u8 b2))
    (k3 : w.cell? (ad.add 3) = some (.int .u8 b3))
    (h0 : 128 ≤ b0) (g0 : b0 < 256)
    (h1 : 128 ≤ b1) (g1 : b1 < 256)
    (h2 : 128 ≤ b2) (g2 : b2 < 256)
    (h3 : 128 ≤ b3) (g3 : b3 < 256) :
    Calls Tryd.prog 52 #[.slice (some ad) 4 c] w fun e w' => e = .returned (.tuple #[.int .u64 0, .int .i64 0, .iface t u]) ∧ Below w.heap.size w w' := by
  have w0 : IntKind.u64.wrap b0 = b0 := by rw [IntKind.wrap_u64]; omega
  have w1 : IntKind.u64.wrap b1 = b1 := by rw [IntKind.wrap_u64]; omega
  have w2 : IntKind.u64.wrap b2 = b2 := by rw [IntKind.wrap_u64]; omega
  have w3 : IntKind.u64.wrap b3 = b3 := by rw [IntKind.wrap_u64]; omega
  obtain ⟨a1, ha1⟩ : ∃ x, x = b0 - 128 := ⟨_, rfl⟩
  have s1 : IntKind.u64.wrap (b0 - 128) = a1 := by rw [IntKind.wrap_u64]; omega
  obtain ⟨y1, hy1⟩ : ∃ x, x = b1 * 128 := ⟨_, rfl⟩
  have t1 : IntKind.u64.wrap (b1 * 128) = y1 := by rw [IntKind.wrap_u64]; omega
  obtain ⟨v1, hv1⟩ : ∃ x, x = a1 + y1 := ⟨_, rfl⟩
  have u1 : IntKind.u64.wrap (a1 + y1) = v1 := by rw [IntKind.wrap_u64]; omega
  obtain ⟨a2, ha2⟩ : ∃ x, x = v1 - 16384 := ⟨_, rfl⟩
  have s2 : IntKind.u64.wrap (v1 - 16384) = a2 := by rw [IntKind.wrap_u64]; omega
  obtain ⟨y2, hy2⟩ : ∃ x, x = b2 * 16384 := ⟨_, rfl⟩
  have t2 : IntKind.u64.wrap (b2 * 16384) = y2 := by rw [IntKind.wrap_u64]; omega
  obtain ⟨v2, hv2⟩ : ∃ x, x = a2 + y2 := ⟨_, rfl⟩
  have u2 : IntKind.u64.wrap (a2 + y2) = v2 := by rw [IntKind.wrap_u64]; omega
  obtain ⟨a3, ha3⟩ : ∃ x, x = v2 - 2097152 := ⟨_, rfl⟩
  have s3 : IntKind.u64.wrap (v2 - 2097152) = a3 := by rw [IntKind.wrap_u64]; omega
  obtain ⟨y3, hy3⟩ : ∃ x, x = b3 * 2097152 := ⟨_, rfl⟩
  have t3 : IntKind.u64.wrap (b3 * 2097152) = y3 := by rw [IntKind.wrap_u64]; omega
  obtain ⟨v3, hv3⟩ : ∃ x, x = a3 + y3 := ⟨_, rfl⟩
  have u3 : IntKind.u64.wrap (a3 + y3) = v3 := by rw [IntKind.wrap_u64]; omega
  obtain ⟨a4, ha4⟩ : ∃ x, x = v3 - 268435456 := ⟨_, rfl⟩
  have s4 : IntKind.u64.wrap (v3 - 268435456) = a4 := by rw [IntKind.wrap_u64]; omega
  have d0 : decide (b0 < 128) = false := decide_eq_false (by omega)
  have d1 : decide (b1 < 128) = false := decide_eq_false (by omega)
  have d2 : decide (b2 < 128) = false := decide_eq_false (by omega)
  have d3 : decide (b3 < 128) = false := decide_eq_false (by omega)
  have kk0 := k0
  rw [add_zero_] at kk0
  have kk1 : w.cell? { block := ad.block, off := ad.off + 1 } = some (.int .u8 b1) := by simpa [Addr.add] using k1
  have kk2 : w.cell? { block := ad.block, off := ad.off + 2 } = some (.int .u8 b2) := by simpa [Addr.add] using k2
  have kk3 : w.cell? { block := ad.block, off := ad.off + 3 } = some (.int .u8 b3) := by simpa [Addr.add] using k3
  clear h0 g0 h1 g1 h2 g2 h3 g3 ha1 ha2 ha3 ha4 hy1 hv1 hy2 hv2 hy3 hv3
  go_enter Tryd.func52, Tryd.ntmps52
  go_wp2_with fail
  go_quiet (fail)
  go_wp2_with fail
  go_ret3
  refine ⟨rfl, ?_⟩
  first | exact Below.refl _ _ | exact below_drew (Below.refl _ _) | exact pw_below_drewN (Below.refl _ _) _
set_option maxHeartbeats 8000000 in
set_option maxRecDepth 100000 in
theorem scan_err5 (ad : Addr) (c : Nat) (b0 b1 b2 b3 b4 : Int) (w : World) (t : TypeId) (u : Value) (hg : w.cell? ⟨0, 0, none⟩ = some (.iface t u))
    (k0 : w.cell? (ad.add 0) = some (.int .u8 b0))
    (k1 : w.cell? (ad.add 1) = some (.int .u8 b1))
    (k2 : w.cell? (ad.add 2) = some (.int .u8 b2))
    (k3 : w.cell? (ad.add 3) = some (.int .u8 b3))
    (k4 : w.cell? (ad.add 4) = some (.int .u8 b4))
    (h0 : 128 ≤ b0) (g0 : b0 < 256)
    (h1 : 128 ≤ b1) (g1 : b1 < 256)
    (h2 : 128 ≤ b2) (g2 : b2 < 256)
    (h3 : 128 ≤ b3) (g3 : b3 < 256)
    (h4 : 128 ≤ b4) (g4 : b4 < 256) :
    Calls Tryd.prog 52 #[.slice (some ad) 5 c] w fun e w' => e = .returned (.tuple #[.int .u64 0, .int .i64 0, .iface t u]) ∧ Below w.heap.size w w' := by
  have w0 : IntKind.u64.wrap b0 = b0 := by rw [IntKind.wrap_u64]; omega
  have w1 : IntKind.u64.wrap b1 = b1 := by rw [IntKind.wrap_u64]; omega
  have w2 : IntKind.u64.wrap b2 = b2 := by rw [IntKind.wrap_u64]; omega
  have w3 : IntKind.u64.wrap b3 = b3 := by rw [IntKind.wrap_u64]; omega
  have w4 : IntKind.u64.wrap b4 = b4 := by rw [IntKind.wrap_u64]; omega
  obtain ⟨a1, ha1⟩ : ∃ x, x = b0 - 128 := ⟨_, rfl⟩
  have s1 : IntKind.u64.wrap (b0 - 128) = a1 := by rw [IntKind.wrap_u64]; omega
  obtain ⟨y1, hy1⟩ : ∃ x, x = b1 * 128 := ⟨_, rfl⟩
  have t1 : IntKind.u64.wrap (b1 * 128) = y1 := by rw [IntKind.wrap_u64]; omega
  obtain ⟨v1, hv1⟩ : ∃ x, x = a1 + y1 := ⟨_, rfl⟩
  have u1 : IntKind.u64.wrap (a1 + y1) = v1 := by rw [IntKind.wrap_u64]; omega
  obtain ⟨a2, ha2⟩ : ∃ x, x = v1 - 16384 := ⟨_, rfl⟩
  have s2 : IntKind.u64.wrap (v1 - 16384) = a2 := by rw [IntKind.wrap_u64]; omega
  obtain ⟨y2, hy2⟩ : ∃ x, x = b2 * 16384 := ⟨_, rfl⟩
  have t2 : IntKind.u64.wrap (b2 * 16384) = y2 := by rw [IntKind.wrap_u64]; omega
  obtain ⟨v2, hv2⟩ : ∃ x, x = a2 + y2 := ⟨_, rfl⟩
  have u2 : IntKind.u64.wrap (a2 + y2) = v2 := by rw [IntKind.wrap_u64]; omega
  obtain ⟨a3, ha3⟩ : ∃ x, x = v2 - 2097152 := ⟨_, rfl⟩
  have s3 : IntKind.u64.wrap (v2 - 2097152) = a3 := by rw [IntKind.wrap_u64]; omega
  obtain ⟨y3, hy3⟩ : ∃ x, x = b3 * 2097152 := ⟨_, rfl⟩
  have t3 : IntKind.u64.wrap (b3 * 2097152) = y3 := by rw [IntKind.wrap_u64]; omega
  obtain ⟨v3, hv3⟩ : ∃ x, x = a3 + y3 := ⟨_, rfl⟩
  have u3 : IntKind.u64.wrap (a3 + y3) = v3 := by rw [IntKind.wrap_u64]; omega
  obtain ⟨a4, ha4⟩ : ∃ x, x = v3 - 268435456 := ⟨_, rfl⟩
  have s4 : IntKind.u64.wrap (v3 - 268435456) = a4 := by rw [IntKind.wrap_u64]; omega
  obtain ⟨y4, hy4⟩ : ∃ x, x = b4 * 268435456 := ⟨_, rfl⟩
  have t4 : IntKind.u64.wrap (b4 * 268435456) = y4 := by rw [IntKind.wrap_u64]; omega
  obtain ⟨v4, hv4⟩ : ∃ x, x = a4 + y4 := ⟨_, rfl⟩
  have u4 : IntKind.u64.wrap (a4 + y4) = v4 := by rw [IntKind.wrap_u64]; omega
  obtain ⟨a5, ha5⟩ : ∃ x, x = v4 - 34359738368 := ⟨_, rfl⟩
  have s5 : IntKind.u64.wrap (v4 - 34359738368) = a5 := by rw [IntKind.wrap_u64]; omega
  have d0 : decide (b0 < 128) = false := decide_eq_false (by omega)
  have d1 : decide (b1 < 128) = false := decide_eq_false (by omega)
  have d2 : decide (b2 < 128) = false := decide_eq_false (by omega)
  have d3 : decide (b3 < 128) = false := decide_eq_false (by omega)
  have d4 : decide (b4 < 128) = false := decide_eq_false (by omega)
  have kk0 := k0
  rw [add_zero_] at kk0
  have kk1 : w.cell? { block := ad.block, off := ad.off + 1 } = some (.int .u8 b1) := by simpa [Addr.add] using k1
  have kk2 : w.cell? { block := ad.block, off := ad.off + 2 } = some (.int .u8 b2) := by simpa [Addr.add] using k2
  have kk3 : w.cell? { block := ad.block, off := ad.off + 3 } = some (.int .u8 b3) := by simpa [Addr.add] using k3
  have kk4 : w.cell? { block := ad.block, off := ad.off + 4 } = some (.int .u8 b4) := by simpa [Addr.add] using k4
  clear h0 g0 h1 g1 h2 g2 h3 g3 h4 g4 ha1 ha2 ha3 ha4 ha5 hy1 hv1 hy2 hv2 hy3 hv3 hy4 hv4
  go_enter Tryd.func52, Tryd.ntmps52
  go_wp2_with fail
  go_quiet (fail)
  go_wp2_with fail
  go_ret3
  refine ⟨rfl, ?_⟩
  first | exact Below.refl _ _ | exact below_drew (Below.refl _ _) | exact pw_below_drewN (Below.refl _ _) _
set_option maxHeartbeats 8000000 in
set_option maxRecDepth 100000 in
theorem scan_err6 (ad : Addr) (c : Nat) (b0 b1 b2 b3 b4 b5 : Int) (w : World) (t : TypeId) (u : Value) (hg : w.cell? ⟨0, 0, none⟩ = some (.iface t u))
    (k0 : w.cell? (ad.add 0) = some (.int .u8 b0))
    (k1 : w.cell? (ad.add 1) = some (.int .u8 b1))
    (k2 : w.cell? (ad.add 2) = some (.int .u8 b2))
    (k3 : w.cell? (ad.add 3) = some (.int .u8 b3))
    (k4 : w.cell? (ad.add 4) = some (.int .u8 b4))
    (k5 : w.cell? (ad.add 5) = some (.int .u8 b5))
    (h0 : 128 ≤ b0) (g0 : b0 < 256)
    (h1 : 128 ≤ b1) (g1 : b1 < 256)
    (h2 : 128 ≤ b2) (g2 : b2 < 256)
    (h3 : 128 ≤ b3) (g3 : b3 < 256)
    (h4 : 128 ≤ b4) (g4 : b4 < 256)
    (h5 : 128 ≤ b5) (g5 : b5 < 256) :
    Calls Tryd.prog 52 #[.slice (some ad) 6 c] w fun e w' => e = .returned (.tuple #[.int .u64 0, .int .i64 0, .iface t u]) ∧ Below w.heap.size w w' := by
  have w0 : IntKind.u64.wrap b0 = b0 := by rw [IntKind.wrap_u64]; omega
  have w1 : IntKind.u64.wrap b1 = b1 := by rw [IntKind.wrap_u64]; omega
  have w2 : IntKind.u64.wrap b2 = b2 := by rw [IntKind.wrap_u64]; omega
  have w3 : IntKind.u64.wrap b3 = b3 := by rw [IntKind.wrap_u64]; omega
  have w4 : IntKind.u64.wrap b4 = b4 := by rw [IntKind.wrap_u64]; omega
  have w5 : IntKind.u64.wrap b5 = b5 := by rw [IntKind.wrap_u64]; omega
  obtain ⟨a1, ha1⟩ : ∃ x, x = b0 - 128 := ⟨_, rfl⟩
  have s1 : IntKind.u64.wrap (b0 - 128) = a1 := by rw [IntKind.wrap_u64]; omega
  obtain ⟨y1, hy1⟩ : ∃ x, x = b1 * 128 := ⟨_, rfl⟩
  have t1 : IntKind.u64.wrap (b1 * 128) = y1 := by rw [IntKind.wrap_u64]; omega
  obtain ⟨v1, hv1⟩ : ∃ x, x = a1 + y1 := ⟨_, rfl⟩
  have u1 : IntKind.u64.wrap (a1 + y1) = v1 := by rw [IntKind.wrap_u64]; omega
  obtain ⟨a2, ha2⟩ : ∃ x, x = v1 - 16384 := ⟨_, rfl⟩
  have s2 : IntKind.u64.wrap (v1 - 16384) = a2 := by rw [IntKind.wrap_u64]; omega
  obtain ⟨y2, hy2⟩ : ∃ x, x = b2 * 16384 := ⟨_, rfl⟩
  have t2 : IntKind.u64.wrap (b2 * 16384) = y2 := by rw [IntKind.wrap_u64]; omega
  obtain ⟨v2, hv2⟩ : ∃ x, x = a2 + y2 := ⟨_, rfl⟩
  have u2 : IntKind.u64.wrap (a2 + y2) = v2 := by rw [IntKind.wrap_u64]; omega
  obtain ⟨a3, ha3⟩ : ∃ x, x = v2 - 2097152 := ⟨_, rfl⟩
  have s3 : IntKind.u64.wrap (v2 - 2097152) = a3 := by rw [IntKind.wrap_u64]; omega
  obtain ⟨y3, hy3⟩ : ∃ x, x = b3 * 2097152 := ⟨_, rfl⟩
  have t3 : IntKind.u64.wrap (b3 * 2097152) = y3 := by rw [IntKind.wrap_u64]; omega
  obtain ⟨v3, hv3⟩ : ∃ x, x = a3 + y3 := ⟨_, rfl⟩
  have u3 : IntKind.u64.wrap (a3 + y3) = v3 := by rw [IntKind.wrap_u64]; omega
  obtain ⟨a4, ha4⟩ : ∃ x, x = v3 - 268435456 := ⟨_, rfl⟩
  have s4 : IntKind.u64.wrap (v3 - 268435456) = a4 := by rw [IntKind.wrap_u64]; omega
  obtain ⟨y4, hy4⟩ : ∃ x, x = b4 * 268435456 := ⟨_, rfl⟩
  have t4 : IntKind.u64.wrap (b4 * 268435456) = y4 := by rw [IntKind.wrap_u64]; omega
  obtain ⟨v4, hv4⟩ : ∃ x, x = a4 + y4 := ⟨_, rfl⟩
  have u4 : IntKind.u64.wrap (a4 + y4) = v4 := by rw [IntKind.wrap_u64]; omega
  obtain ⟨a5, ha5⟩ : ∃ x, x = v4 - 34359738368 := ⟨_, rfl⟩
  have s5 : IntKind.u64.wrap (v4 - 34359738368) = a5 := by rw [IntKind.wrap_u64]; omega
  obtain ⟨y5, hy5⟩ : ∃ x, x = b5 * 34359738368 := ⟨_, rfl⟩
  have t5 : IntKind.u64.wrap (b5 * 34359738368) = y5 := by rw [IntKind.wrap_u64]; omega
  obtain ⟨v5, hv5⟩ : ∃ x, x = a5 + y5 := ⟨_, rfl⟩
  have u5 : IntKind.u64.wrap (a5 + y5) = v5 := by rw [IntKind.wrap_u64]; omega
  obtain ⟨a6, ha6⟩ : ∃ x, x = v5 - 4398046511104 := ⟨_, rfl⟩
  have s6 : IntKind.u64.wrap (v5 - 4398046511104) = a6 := by rw [IntKind.wrap_u64]; omega
  have d0 : decide (b0 < 128) = false := decide_eq_false (by omega)
  have d1 : decide (b1 < 128) = false := decide_eq_false (by omega)
  have d2 : decide (b2 < 128) = false := decide_eq_false (by omega)
  have d3 : decide (b3 < 128) = false := decide_eq_false (by omega)
  have d4 : decide (b4 < 128) = false := decide_eq_false (by omega)
  have d5 : decide (b5 < 128) = false := decide_eq_false (by omega)
  have kk0 := k0
  rw [add_zero_] at kk0
  have kk1 : w.cell? { block := ad.block, off := ad.off + 1 } = some (.int .u8 b1) := by simpa [Addr.add] using k1
  have kk2 : w.cell? { block := ad.block, off := ad.off + 2 } = some (.int .u8 b2) := by simpa [Addr.add] using k2
  have kk3 : w.cell? { block := ad.block, off := ad.off + 3 } = some (.int .u8 b3) := by simpa [Addr.add] using k3
  have kk4 : w.cell? { block := ad.block, off := ad.off + 4 } = some (.int .u8 b4) := by simpa [Addr.add] using k4
  have kk5 : w.cell? { block := ad.block, off := ad.off + 5 } = some (.int .u8 b5) := by simpa [Addr.add] using k5
  clear h0 g0 h1 g1 h2 g2 h3 g3 h4 g4 h5 g5 ha1 ha2 ha3 ha4 ha5 ha6 hy1 hv1 hy2 hv2 hy3 hv3 hy4 hv4 hy5 hv5
  go_enter Tryd.func52, Tryd.ntmps52
  go_wp2_with fail
  go_quiet (fail)
  go_wp2_with fail
  go_ret3
  refine ⟨rfl, ?_⟩
  first | exact Below.refl _ _ | exact below_drew (Below.refl _ _) | exact pw_below_drewN (Below.refl _ _) _
set_option maxHeartbeats 8000000 in
set_option maxRecDepth 100000 in
theorem scan_err7 (ad : Addr) (c : Nat) (b0 b1 b2 b3 b4 b5 b6 : Int) (w : World) (t : TypeId) (u : Value) (hg : w.cell? ⟨0, 0, none⟩ = some (.iface t u))
    (k0 : w.cell? (ad.add 0) = some (.int .u8 b0))
    (k1 : w.cell? (ad.add 1) = some (.int .u8 b1))
    (k2 : w.cell? (ad.add 2) = some (.int .u8 b2))
    (k3 : w.cell? (ad.add 3) = some (.int .u8 b3))
    (k4 : w.cell? (ad.add 4) = some (.int .u8 b4))
    (k5 : w.cell? (ad.add 5) = some (.int .u8 b5))
    (k6 : w.cell? (ad.add 6) = some (.int .u8 b6))
    (h0 : 128 ≤ b0) (g0 : b0 < 256)
    (h1 : 128 ≤ b1) (g1 : b1 < 256)
    (h2 : 128 ≤ b2) (g2 : b2 < 256)
    (h3 : 128 ≤ b3) (g3 : b3 < 256)
    (h4 : 128 ≤ b4) (g4 : b4 < 256)
    (h5 : 128 ≤ b5) (g5 : b5 < 256)
    (h6 : 128 ≤ b6) (g6 : b6 < 256) :
    Calls Tryd.prog 52 #[.slice (some ad) 7 c] w fun e w' => e = .returned (.tuple #[.int .u64 0, .int .i64 0, .iface t u]) ∧ Below w.heap.size w w' := by
  have w0 : IntKind.u64.wrap b0 = b0 := by rw [IntKind.wrap_u64]; omega
  have w1 : IntKind.u64.wrap b1 = b1 := by rw [IntKind.wrap_u64]; omega
  have w2 : IntKind.u64.wrap b2 = b2 := by rw [IntKind.wrap_u64]; omega
  have w3 : IntKind.u64.wrap b3 = b3 := by rw [IntKind.wrap_u64]; omega
  have w4 : IntKind.u64.wrap b4 = b4 := by rw [IntKind.wrap_u64]; omega
  have w5 : IntKind.u64.wrap b5 = b5 := by rw [IntKind.wrap_u64]; omega
  have w6 : IntKind.u64.wrap b6 = b6 := by rw [IntKind.wrap_u64]; omega
  obtain ⟨a1, ha1⟩ : ∃ x, x = b0 - 128 := ⟨_, rfl⟩
  have s1 : IntKind.u64.wrap (b0 - 128) = a1 := by rw [IntKind.wrap_u64]; omega
  obtain ⟨y1, hy1⟩ : ∃ x, x = b1 * 128 := ⟨_, rfl⟩
  have t1 : IntKind.u64.wrap (b1 * 128) = y1 := by rw [IntKind.wrap_u64]; omega
  obtain ⟨v1, hv1⟩ : ∃ x, x = a1 + y1 := ⟨_, rfl⟩
  have u1 : IntKind.u64.wrap (a1 + y1) = v1 := by rw [IntKind.wrap_u64]; omega
  obtain ⟨a2, ha2⟩ : ∃ x, x = v1 - 16384 := ⟨_, rfl⟩
  have s2 : IntKind.u64.wrap (v1 - 16384) = a2 := by rw [IntKind.wrap_u64]; omega
  obtain ⟨y2, hy2⟩ : ∃ x, x = b2 * 16384 := ⟨_, rfl⟩
  have t2 : IntKind.u64.wrap (b2 * 16384) = y2 := by rw [IntKind.wrap_u64]; omega
  obtain ⟨v2, hv2⟩ : ∃ x, x = a2 + y2 := ⟨_, rfl⟩
  have u2 : IntKind.u64.wrap (a2 + y2) = v2 := by rw [IntKind.wrap_u64]; omega
  obtain ⟨a3, ha3⟩ : ∃ x, x = v2 - 2097152 := ⟨_, rfl⟩
  have s3 : IntKind.u64.wrap (v2 - 2097152) = a3 := by rw [IntKind.wrap_u64]; omega
  obtain ⟨y3, hy3⟩ : ∃ x, x = b3 * 2097152 := ⟨_, rfl⟩
  have t3 : IntKind.u64.wrap (b3 * 2097152) = y3 := by rw [IntKind.wrap_u64]; omega
  obtain ⟨v3, hv3⟩ : ∃ x, x = a3 + y3 := ⟨_, rfl⟩
  have u3 : IntKind.u64.wrap (a3 + y3) = v3 := by rw [IntKind.wrap_u64]; omega
  obtain ⟨a4, ha4⟩ : ∃ x, x = v3 - 268435456 := ⟨_, rfl⟩
  have s4 : IntKind.u64.wrap (v3 - 268435456) = a4 := by rw [IntKind.wrap_u64]; omega
  obtain ⟨y4, hy4⟩ : ∃ x, x = b4 * 268435456 := ⟨_, rfl⟩
  have t4 : IntKind.u64.wrap (b4 * 268435456) = y4 := by rw [IntKind.wrap_u64]; omega
  obtain ⟨v4, hv4⟩ : ∃ x, x = a4 + y4 := ⟨_, rfl⟩
  have u4 : IntKind.u64.wrap (a4 + y4) = v4 := by rw [IntKind.wrap_u64]; omega
  obtain ⟨a5, ha5⟩ : ∃ x, x = v4 - 34359738368 := ⟨_, rfl⟩
  have s5 : IntKind.u64.wrap (v4 - 34359738368) = a5 := by rw [IntKind.wrap_u64]; omega
  obtain ⟨y5, hy5⟩ : ∃ x, x = b5 * 34359738368 := ⟨_, rfl⟩
  have t5 : IntKind.u64.wrap (b5 * 34359738368) = y5 := by rw [IntKind.wrap_u64]; omega
  obtain ⟨v5, hv5⟩ : ∃ x, x = a5 + y5 := ⟨_, rfl⟩
  have u5 : IntKind.u64.wrap (a5 + y5) = v5 := by rw [IntKind.wrap_u64]; omega
  obtain ⟨a6, ha6⟩ : ∃ x, x = v5 - 4398046511104 := ⟨_, rfl⟩
  have s6 : IntKind.u64.wrap (v5 - 4398046511104) = a6 := by rw [IntKind.wrap_u64]; omega
  obtain ⟨y6, hy6⟩ : ∃ x, x = b6 * 4398046511104 := ⟨_, rfl⟩
  have t6 : IntKind.u64.wrap (b6 * 4398046511104) = y6 := by rw [IntKind.wrap_u64]; omega
  obtain ⟨v6, hv6⟩ : ∃ x, x = a6 + y6 := ⟨_, rfl⟩
  have u6 : IntKind.u64.wrap (a6 + y6) = v6 := by rw [IntKind.wrap_u64]; omega
  obtain ⟨a7, ha7⟩ : ∃ x, x = v6 - 562949953421312 := ⟨_, rfl⟩
  have s7 : IntKind.u64.wrap (v6 - 562949953421312) = a7 := by rw [IntKind.wrap_u64]; omega
  have d0 : decide (b0 < 128) = false := decide_eq_false (by omega)
  have d1 : decide (b1 < 128) = false := decide_eq_false (by omega)
  have d2 : decide (b2 < 128) = false := decide_eq_false (by omega)
  have d3 : decide (b3 < 128) = false := decide_eq_false (by omega)
  have d4 : decide (b4 < 128) = false := decide_eq_false (by omega)
  have d5 : decide (b5 < 128) = false := decide_eq_false (by omega)
  have d6 : decide (b6 < 128) = false := decide_eq_false (by omega)
  have kk0 := k0
  rw [add_zero_] at kk0
  have kk1 : w.cell? { block := ad.block, off := ad.off + 1 } = some (.int .u8 b1) := by simpa [Addr.add] using k1
  have kk2 : w.cell? { block := ad.block, off := ad.off + 2 } = some (.int .u8 b2) := by simpa [Addr.add] using k2
  have kk3 : w.cell? { block := ad.block, off := ad.off + 3 } = some (.int .u8 b3) := by simpa [Addr.add] using k3
  have kk4 : w.cell? { block := ad.block, off := ad.off + 4 } = some (.int .u8 b4) := by simpa [Addr.add] using k4
  have kk5 : w.cell? { block := ad.block, off := ad.off + 5 } = some (.int .u8 b5) := by simpa [Addr.add] using k5
  have kk6 : w.cell? { block := ad.block, off := ad.off + 6 } = some (.int .u8 b6) := by simpa [Addr.add] using k6
  clear h0 g0 h1 g1 h2 g2 h3 g3 h4 g4 h5 g5 h6 g6 ha1 ha2 ha3 ha4 ha5 ha6 ha7 hy1 hv1 hy2 hv2 hy3 hv3 hy4 hv4 hy5 hv5 hy6 hv6
  go_enter Tryd.func52, Tryd.ntmps52
  go_wp2_with fail
  go_quiet (fail)
  go_wp2_with fail
  go_ret3
  refine ⟨rfl, ?_⟩
  first | exact Below.refl _ _ | exact below_drew (Below.refl _ _) | exact pw_below_drewN (Below.refl _ _) _
set_option maxHeartbeats 8000000 in
set_option maxRecDepth 100000 in
theorem scan_err8 (ad : Addr) (c : Nat) (b0 b1 b2 b3 b4 b5 b6 b7 : Int) (w : World) (t : TypeId) (u : Value) (hg : w.cell? ⟨0, 0, none⟩ = some (.iface t u))
    (k0 : w.cell? (ad.add 0) = some (.int .u8 b0))
    (k1 : w.cell? (ad.add 1) = some (.int .u8 b1))
    (k2 : w.cell? (ad.add 2) = some (.int .u8 b2))
    (k3 : w.cell? (ad.add 3) = some (.int .u8 b3))
    (k4 : w.cell? (ad.add 4) = some (.int .u8 b4))
    (k5 : w.cell? (ad.add 5) = some (.int .u8 b5))
    (k6 : w.cell? (ad.add 6) = some (.int .u8 b6))
    (k7 : w.cell? (ad.add 7) = some (.int .u8 b7))
    (h0 : 128 ≤ b0) (g0 : b0 < 256)
    (h1 : 128 ≤ b1) (g1 : b1 < 256)
    (h2 : 128 ≤ b2) (g2 : b2 < 256)
    (h3 : 128 ≤ b3) (g3 : b3 < 256)
    (h4 : 128 ≤ b4) (g4 : b4 < 256)
    (h5 : 128 ≤ b5) (g5 : b5 < 256)
    (h6 : 128 ≤ b6) (g6 : b6 < 256)
    (h7 : 128 ≤ b7) (g7 : b7 < 256) :
    Calls Tryd.prog 52 #[.slice (some ad) 8 c] w fun e w' => e = .returned (.tuple #[.int .u64 0, .int .i64 0, .iface t u]) ∧ Below w.heap.size w w' := by
  have w0 : IntKind.u64.wrap b0 = b0 := by rw [IntKind.wrap_u64]; omega
  have w1 : IntKind.u64.wrap b1 = b1 := by rw [IntKind.wrap_u64]; omega
  have w2 : IntKind.u64.wrap b2 = b2 := by rw [IntKind.wrap_u64]; omega
  have w3 : IntKind.u64.wrap b3 = b3 := by rw [IntKind.wrap_u64]; omega
  have w4 : IntKind.u64.wrap b4 = b4 := by rw [IntKind.wrap_u64]; omega
  have w5 : IntKind.u64.wrap b5 = b5 := by rw [IntKind.wrap_u64]; omega
  have w6 : IntKind.u64.wrap b6 = b6 := by rw [IntKind.wrap_u64]; omega
  have w7 : IntKind.u64.wrap b7 = b7 := by rw [IntKind.wrap_u64]; omega
  obtain ⟨a1, ha1⟩ : ∃ x, x = b0 - 128 := ⟨_, rfl⟩
  have s1 : IntKind.u64.wrap (b0 - 128) = a1 := by rw [IntKind.wrap_u64]; omega
  obtain ⟨y1, hy1⟩ : ∃ x, x = b1 * 128 := ⟨_, rfl⟩
  have t1 : IntKind.u64.wrap (b1 * 128) = y1 := by rw [IntKind.wrap_u64]; omega
  obtain ⟨v1, hv1⟩ : ∃ x, x = a1 + y1 := ⟨_, rfl⟩
  have u1 : IntKind.u64.wrap (a1 + y1) = v1 := by rw [IntKind.wrap_u64]; omega
  obtain ⟨a2, ha2⟩ : ∃ x, x = v1 - 16384 := ⟨_, rfl⟩
  have s2 : IntKind.u64.wrap (v1 - 16384) = a2 := by rw [IntKind.wrap_u64]; omega
  obtain ⟨y2, hy2⟩ : ∃ x, x = b2 * 16384 := ⟨_, rfl⟩
  have t2 : IntKind.u64.wrap (b2 * 16384) = y2 := by rw [IntKind.wrap_u64]; omega
  obtain ⟨v2, hv2⟩ : ∃ x, x = a2 + y2 := ⟨_, rfl⟩
  have u2 : IntKind.u64.wrap (a2 + y2) = v2 := by rw [IntKind.wrap_u64]; omega
  obtain ⟨a3, ha3⟩ : ∃ x, x = v2 - 2097152 := ⟨_, rfl⟩
  have s3 : IntKind.u64.wrap (v2 - 2097152) = a3 := by rw [IntKind.wrap_u64]; omega
  obtain ⟨y3, hy3⟩ : ∃ x, x = b3 * 2097152 := ⟨_, rfl⟩
  have t3 : IntKind.u64.wrap (b3 * 2097152) = y3 := by rw [IntKind.wrap_u64]; omega
  obtain ⟨v3, hv3⟩ : ∃ x, x = a3 + y3 := ⟨_, rfl⟩
  have u3 : IntKind.u64.wrap (a3 + y3) = v3 := by rw [IntKind.wrap_u64]; omega
  obtain ⟨a4, ha4⟩ : ∃ x, x = v3 - 268435456 := ⟨_, rfl⟩
  have s4 : IntKind.u64.wrap (v3 - 268435456) = a4 := by rw [IntKind.wrap_u64]; omega
  obtain ⟨y4, hy4⟩ : ∃ x, x = b4 * 268435456 := ⟨_, rfl⟩
  have t4 : IntKind.u64.wrap (b4 * 268435456) = y4 := by rw [IntKind.wrap_u64]; omega
  obtain ⟨v4, hv4⟩ : ∃ x, x = a4 + y4 := ⟨_, rfl⟩
  have u4 : IntKind.u64.wrap (a4 + y4) = v4 := by rw [IntKind.wrap_u64]; omega
  obtain ⟨a5, ha5⟩ : ∃ x, x = v4 - 34359738368 := ⟨_, rfl⟩
  have s5 : IntKind.u64.wrap (v4 - 34359738368) = a5 := by rw [IntKind.wrap_u64]; omega
  obtain ⟨y5, hy5⟩ : ∃ x, x = b5 * 34359738368 := ⟨_, rfl⟩
  have t5 : IntKind.u64.wrap (b5 * 34359738368) = y5 := by rw [IntKind.wrap_u64]; omega
  obtain ⟨v5, hv5⟩ : ∃ x, x = a5 + y5 := ⟨_, rfl⟩
  have u5 : IntKind.u64.wrap (a5 + y5) = v5 := by rw [IntKind.wrap_u64]; omega
  obtain ⟨a6, ha6⟩ : ∃ x, x = v5 - 4398046511104 := ⟨_, rfl⟩
  have s6 : IntKind.u64.wrap (v5 - 4398046511104) = a6 := by rw [IntKind.wrap_u64]; omega
  obtain ⟨y6, hy6⟩ : ∃ x, x = b6 * 4398046511104 := ⟨_, rfl⟩
  have t6 : IntKind.u64.wrap (b6 * 4398046511104) = y6 := by rw [IntKind.wrap_u64]; omega
  obtain ⟨v6, hv6⟩ : ∃ x, x = a6 + y6 := ⟨_, rfl⟩
  have u6 : IntKind.u64.wrap (a6 + y6) = v6 := by rw [IntKind.wrap_u64]; omega
  obtain ⟨a7, ha7⟩ : ∃ x, x = v6 - 562949953421312 := ⟨_, rfl⟩
  have s7 : IntKind.u64.wrap (v6 - 562949953421312) = a7 := by rw [IntKind.wrap_u64]; omega
  obtain ⟨y7, hy7⟩ : ∃ x, x = b7 * 562949953421312 := ⟨_, rfl⟩
  have t7 : IntKind.u64.wrap (b7 * 562949953421312) = y7 := by rw [IntKind.wrap_u64]; omega
  obtain ⟨v7, hv7⟩ : ∃ x, x = a7 + y7 := ⟨_, rfl⟩
  have u7 : IntKind.u64.wrap (a7 + y7) = v7 := by rw [IntKind.wrap_u64]; omega
  obtain ⟨a8, ha8⟩ : ∃ x, x = v7 - 72057594037927936 := ⟨_, rfl⟩
  have s8 : IntKind.u64.wrap (v7 - 72057594037927936) = a8 := by rw [IntKind.wrap_u64]; omega
  have d0 : decide (b0 < 128) = false := decide_eq_false (by omega)
  have d1 : decide (b1 < 128) = false := decide_eq_false (by omega)
  have d2 : decide (b2 < 128) = false := decide_eq_false (by omega)
  have d3 : decide (b3 < 128) = false := decide_eq_false (by omega)
  have d4 : decide (b4 < 128) = false := decide_eq_false (by omega)
  have d5 : decide (b5 < 128) = false := decide_eq_false (by omega)
  have d6 : decide (b6 < 128) = false := decide_eq_false (by omega)
  have d7 : decide (b7 < 128) = false := decide_eq_false (by omega)
  have kk0 := k0
  rw [add_zero_] at kk0
  have kk1 : w.cell? { block := ad.block, off := ad.off + 1 } = some (.int .u8 b1) := by simpa [Addr.add] using k1
  have kk2 : w.cell? { block := ad.block, off := ad.off + 2 } = some (.int .u8 b2) := by simpa [Addr.add] using k2
  have kk3 : w.cell? { block := ad.block, off := ad.off + 3 } = some (.int .u8 b3) := by simpa [Addr.add] using k3
  have kk4 : w.cell? { block := ad.block, off := ad.off + 4 } = some (.int .u8 b4) := by simpa [Addr.add] using k4
  have kk5 : w.cell? { block := ad.block, off := ad.off + 5 } = some (.int .u8 b5) := by simpa [Addr.add] using k5
  have kk6 : w.cell? { block := ad.block, off := ad.off + 6 } = some (.int .u8 b6) := by simpa [Addr.add] using k6
  have kk7 : w.cell? { block := ad.block, off := ad.off + 7 } = some (.int .u8 b7) := by simpa [Addr.add] using k7
  clear h0 g0 h1 g1 h2 g2 h3 g3 h4 g4 h5 g5 h6 g6 h7 g7 ha1 ha2 ha3 ha4 ha5 ha6 ha7 ha8 hy1 hv1 hy2 hv2 hy3 hv3 hy4 hv4 hy5 hv5 hy6 hv6 hy7 hv7
  go_enter Tryd.func52, Tryd.ntmps52
  go_wp2_with fail
  go_quiet (fail)
  go_wp2_with fail
  go_ret3
  refine ⟨rfl, ?_⟩
  first | exact Below.refl _ _ | exact below_drew (Below.refl _ _) | exact pw_below_drewN (Below.refl _ _) _
set_option maxHeartbeats 8000000 in
set_option maxRecDepth 100000 in
theorem scan_err9 (ad : Addr) (c : Nat) (b0 b1 b2 b3 b4 b5 b6 b7 b8 : Int) (w : World) (t : TypeId) (u : Value) (hg : w.cell? ⟨0, 0, none⟩ = some (.iface t u))
    (k0 : w.cell? (ad.add 0) = some (.int .u8 b0))
    (k1 : w.cell? (ad.add 1) = some (.int .u8 b1))
    (k2 : w.cell? (ad.add 2) = some (.int .u8 b2))
    (k3 : w.cell? (ad.add 3) = some (.int .u8 b3))
    (k4 : w.cell? (ad.add 4) = some (.int .u8 b4))
    (k5 : w.cell? (ad.add 5) = some (.int .u8 b5))
    (k6 : w.cell? (ad.add 6) = some (.int .u8 b6))
    (k7 : w.cell? (ad.add 7) = some (.int .u8 b7))
    (k8 : w.cell? (ad.add 8) = some (.int .u8 b8))
    (h0 : 128 ≤ b0) (g0 : b0 < 256)
    (h1 : 128 ≤ b1) (g1 : b1 < 256)
    (h2 : 128 ≤ b2) (g2 : b2 < 256)
    (h3 : 128 ≤ b3) (g3 : b3 < 256)
    (h4 : 128 ≤ b4) (g4 : b4 < 256)
    (h5 : 128 ≤ b5) (g5 : b5 < 256)
    (h6 : 128 ≤ b6) (g6 : b6 < 256)
    (h7 : 128 ≤ b7) (g7 : b7 < 256)
    (h8 : 128 ≤ b8) (g8 : b8 < 256) :
    Calls Tryd.prog 52 #[.slice (some ad) 9 c] w fun e w' => e = .returned (.tuple #[.int .u64 0, .int .i64 0, .iface t u]) ∧ Below w.heap.size w w' := by
  have w0 : IntKind.u64.wrap b0 = b0 := by rw [IntKind.wrap_u64]; omega
  have w1 : IntKind.u64.wrap b1 = b1 := by rw [IntKind.wrap_u64]; omega
  have w2 : IntKind.u64.wrap b2 = b2 := by rw [IntKind.wrap_u64]; omega
  have w3 : IntKind.u64.wrap b3 = b3 := by rw [IntKind.wrap_u64]; omega
  have w4 : IntKind.u64.wrap b4 = b4 := by rw [IntKind.wrap_u64]; omega
  have w5 : IntKind.u64.wrap b5 = b5 := by rw [IntKind.wrap_u64]; omega
  have w6 : IntKind.u64.wrap b6 = b6 := by rw [IntKind.wrap_u64]; omega
  have w7 : IntKind.u64.wrap b7 = b7 := by rw [IntKind.wrap_u64]; omega
  have w8 : IntKind.u64.wrap b8 = b8 := by rw [IntKind.wrap_u64]; omega
  obtain ⟨a1, ha1⟩ : ∃ x, x = b0 - 128 := ⟨_, rfl⟩
  have s1 : IntKind.u64.wrap (b0 - 128) = a1 := by rw [IntKind.wrap_u64]; omega
  obtain ⟨y1, hy1⟩ : ∃ x, x = b1 * 128 := ⟨_, rfl⟩
  have t1 : IntKind.u64.wrap (b1 * 128) = y1 := by rw [IntKind.wrap_u64]; omega
  obtain ⟨v1, hv1⟩ : ∃ x, x = a1 + y1 := ⟨_, rfl⟩
  have u1 : IntKind.u64.wrap (a1 + y1) = v1 := by rw [IntKind.wrap_u64]; omega
  obtain ⟨a2, ha2⟩ : ∃ x, x = v1 - 16384 := ⟨_, rfl⟩
  have s2 : IntKind.u64.wrap (v1 - 16384) = a2 := by rw [IntKind.wrap_u64]; omega
  obtain ⟨y2, hy2⟩ : ∃ x, x = b2 * 16384 := ⟨_, rfl⟩
  have t2 : IntKind.u64.wrap (b2 * 16384) = y2 := by rw [IntKind.wrap_u64]; omega
  obtain ⟨v2, hv2⟩ : ∃ x, x = a2 + y2 := ⟨_, rfl⟩
  have u2 : IntKind.u64.wrap (a2 + y2) = v2 := by rw [IntKind.wrap_u64]; omega
  obtain ⟨a3, ha3⟩ : ∃ x, x = v2 - 2097152 := ⟨_, rfl⟩
  have s3 : IntKind.u64.wrap (v2 - 2097152) = a3 := by rw [IntKind.wrap_u64]; omega
  obtain ⟨y3, hy3⟩ : ∃ x, x = b3 * 2097152 := ⟨_, rfl⟩
  have t3 : IntKind.u64.wrap (b3 * 2097152) = y3 := by rw [IntKind.wrap_u64]; omega
  obtain ⟨v3, hv3⟩ : ∃ x, x = a3 + y3 := ⟨_, rfl⟩
  have u3 : IntKind.u64.wrap (a3 + y3) = v3 := by rw [IntKind.wrap_u64]; omega
  obtain ⟨a4, ha4⟩ : ∃ x, x = v3 - 268435456 := ⟨_, rfl⟩
  have s4 : IntKind.u64.wrap (v3 - 268435456) = a4 := by rw [IntKind.wrap_u64]; omega
  obtain ⟨y4, hy4⟩ : ∃ x, x = b4 * 268435456 := ⟨_, rfl⟩
  have t4 : IntKind.u64.wrap (b4 * 268435456) = y4 := by rw [IntKind.wrap_u64]; omega
  obtain ⟨v4, hv4⟩ : ∃ x, x = a4 + y4 := ⟨_, rfl⟩
  have u4 : IntKind.u64.wrap (a4 + y4) = v4 := by rw [IntKind.wrap_u64]; omega
  obtain ⟨a5, ha5⟩ : ∃ x, x = v4 - 34359738368 := ⟨_, rfl⟩
  have s5 : IntKind.u64.wrap (v4 - 34359738368) = a5 := by rw [IntKind.wrap_u64]; omega
  obtain ⟨y5, hy5⟩ : ∃ x, x = b5 * 34359738368 := ⟨_, rfl⟩
  have t5 : IntKind.u64.wrap (b5 * 34359738368) = y5 := by rw [IntKind.wrap_u64]; omega
  obtain ⟨v5, hv5⟩ : ∃ x, x = a5 + y5 := ⟨_, rfl⟩
  have u5 : IntKind.u64.wrap (a5 + y5) = v5 := by rw [IntKind.wrap_u64]; omega
  obtain ⟨a6, ha6⟩ : ∃ x, x = v5 - 4398046511104 := ⟨_, rfl⟩
  have s6 : IntKind.u64.wrap (v5 - 4398046511104) = a6 := by rw [IntKind.wrap_u64]; omega
  obtain ⟨y6, hy6⟩ : ∃ x, x = b6 * 4398046511104 := ⟨_, rfl⟩
  have t6 : IntKind.u64.wrap (b6 * 4398046511104) = y6 := by rw [IntKind.wrap_u64]; omega
  obtain ⟨v6, hv6⟩ : ∃ x, x = a6 + y6 := ⟨_, rfl⟩
  have u6 : IntKind.u64.wrap (a6 + y6) = v6 := by rw [IntKind.wrap_u64]; omega
  obtain ⟨a7, ha7⟩ : ∃ x, x = v6 - 562949953421312 := ⟨_, rfl⟩
  have s7 : IntKind.u64.wrap (v6 - 562949953421312) = a7 := by rw [IntKind.wrap_u64]; omega
  obtain ⟨y7, hy7⟩ : ∃ x, x = b7 * 562949953421312 := ⟨_, rfl⟩
  have t7 : IntKind.u64.wrap (b7 * 562949953421312) = y7 := by rw [IntKind.wrap_u64]; omega
  obtain ⟨v7, hv7⟩ : ∃ x, x = a7 + y7 := ⟨_, rfl⟩
  have u7 : IntKind.u64.wrap (a7 + y7) = v7 := by rw [IntKind.wrap_u64]; omega
  obtain ⟨a8, ha8⟩ : ∃ x, x = v7 - 72057594037927936 := ⟨_, rfl⟩
  have s8 : IntKind.u64.wrap (v7 - 72057594037927936) = a8 := by rw [IntKind.wrap_u64]; omega
  obtain ⟨y8, hy8⟩ : ∃ x, x = b8 * 72057594037927936 := ⟨_, rfl⟩
  have t8 : IntKind.u64.wrap (b8 * 72057594037927936) = y8 := by rw [IntKind.wrap_u64]; omega
  obtain ⟨v8, hv8⟩ : ∃ x, x = a8 + y8 := ⟨_, rfl⟩
  have u8 : IntKind.u64.wrap (a8 + y8) = v8 := by rw [IntKind.wrap_u64]; omega
  obtain ⟨a9, ha9⟩ : ∃ x, x = v8 - 9223372036854775808 := ⟨_, rfl⟩
  have s9 : IntKind.u64.wrap (v8 - 9223372036854775808) = a9 := by rw [IntKind.wrap_u64]; omega
  have d0 : decide (b0 < 128) = false := decide_eq_false (by omega)
  have d1 : decide (b1 < 128) = false := decide_eq_false (by omega)
  have d2 : decide (b2 < 128) = false := decide_eq_false (by omega)
  have d3 : decide (b3 < 128) = false := decide_eq_false (by omega)
  have d4 : decide (b4 < 128) = false := decide_eq_false (by omega)
  have d5 : decide (b5 < 128) = false := decide_eq_false (by omega)
  have d6 : decide (b6 < 128) = false := decide_eq_false (by omega)
  have d7 : decide (b7 < 128) = false := decide_eq_false (by omega)
  have d8 : decide (b8 < 128) = false := decide_eq_false (by omega)
  have kk0 := k0
  rw [add_zero_] at kk0
  have kk1 : w.cell? { block := ad.block, off := ad.off + 1 } = some (.int .u8 b1) := by simpa [Addr.add] using k1
  have kk2 : w.cell? { block := ad.block, off := ad.off + 2 } = some (.int .u8 b2) := by simpa [Addr.add] using k2
  have kk3 : w.cell? { block := ad.block, off := ad.off + 3 } = some (.int .u8 b3) := by simpa [Addr.add] using k3
  have kk4 : w.cell? { block := ad.block, off := ad.off + 4 } = some (.int .u8 b4) := by simpa [Addr.add] using k4
  have kk5 : w.cell? { block := ad.block, off := ad.off + 5 } = some (.int .u8 b5) := by simpa [Addr.add] using k5
  have kk6 : w.cell? { block := ad.block, off := ad.off + 6 } = some (.int .u8 b6) := by simpa [Addr.add] using k6
  have kk7 : w.cell? { block := ad.block, off := ad.off + 7 } = some (.int .u8 b7) := by simpa [Addr.add] using k7
  have kk8 : w.cell? { block := ad.block, off := ad.off + 8 } = some (.int .u8 b8) := by simpa [Addr.add] using k8
  clear h0 g0 h1 g1 h2 g2 h3 g3 h4 g4 h5 g5 h6 g6 h7 g7 h8 g8 ha1 ha2 ha3 ha4 ha5 ha6 ha7 ha8 ha9 hy1 hv1 hy2 hv2 hy3 hv3 hy4 hv4 hy5 hv5 hy6 hv6 hy7 hv7 hy8 hv8
  go_enter Tryd.func52, Tryd.ntmps52
  go_wp2_with fail
  go_quiet (fail)
  go_wp2_with fail
  go_ret3
  refine ⟨rfl, ?_⟩
  first | exact Below.refl _ _ | exact below_drew (Below.refl _ _) | exact pw_below_drewN (Below.refl _ _) _
set_option maxHeartbeats 8000000 in
set_option maxRecDepth 100000 in
theorem scan_over (ad : Addr) (L c : Nat) (b0 b1 b2 b3 b4 b5 b6 b7 b8 b9 : Int) (w : World) (t : TypeId) (u : Value) (hL : 10 ≤ L) (hg : w.cell? ⟨1, 0, none⟩ = some (.iface t u))
    (k0 : w.cell? (ad.add 0) = some (.int .u8 b0))
    (k1 : w.cell? (ad.add 1) = some (.int .u8 b1))
    (k2 : w.cell? (ad.add 2) = some (.int .u8 b2))
    (k3 : w.cell? (ad.add 3) = some (.int .u8 b3))
    (k4 : w.cell? (ad.add 4) = some (.int .u8 b4))
    (k5 : w.cell? (ad.add 5) = some (.int .u8 b5))
    (k6 : w.cell? (ad.add 6) = some (.int .u8 b6))
    (k7 : w.cell? (ad.add 7) = some (.int .u8 b7))
    (k8 : w.cell? (ad.add 8) = some (.int .u8 b8))
    (k9 : w.cell? (ad.add 9) = some (.int .u8 b9))
    (h0 : 128 ≤ b0) (g0 : b0 < 256)
    (h1 : 128 ≤ b1) (g1 : b1 < 256)
    (h2 : 128 ≤ b2) (g2 : b2 < 256)
    (h3 : 128 ≤ b3) (g3 : b3 < 256)
    (h4 : 128 ≤ b4) (g4 : b4 < 256)
    (h5 : 128 ≤ b5) (g5 : b5 < 256)
    (h6 : 128 ≤ b6) (g6 : b6 < 256)
    (h7 : 128 ≤ b7) (g7 : b7 < 256)
    (h8 : 128 ≤ b8) (g8 : b8 < 256)
    (h9 : 2 ≤ b9) (g9 : b9 < 256) :
    Calls Tryd.prog 52 #[.slice (some ad) L c] w fun e w' => e = .returned (.tuple #[.int .u64 0, .int .i64 0, .iface t u]) ∧ Below w.heap.size w w' := by
  have l0 : decide ((L : Int) ≤ 0) = false := decide_eq_false (by omega)
  have z0 : decide (L = 0) = false := decide_eq_false (by omega)
  have m0 := eq_true (show 0 < L by omega)
  have n0 := eq_true (show (0 : Int) < (L : Int) by omega)
  have l1 : decide ((L : Int) ≤ 1) = false := decide_eq_false (by omega)
  have z1 : decide (L ≤ 1) = false := decide_eq_false (by omega)
  have m1 := eq_true (show 1 < L by omega)
  have n1 := eq_true (show (1 : Int) < (L : Int) by omega)
  have l2 : decide ((L : Int) ≤ 2) = false := decide_eq_false (by omega)
  have z2 : decide (L ≤ 2) = false := decide_eq_false (by omega)
  have m2 := eq_true (show 2 < L by omega)
  have n2 := eq_true (show (2 : Int) < (L : Int) by omega)
  have l3 : decide ((L : Int) ≤ 3) = false := decide_eq_false (by omega)
  have z3 : decide (L ≤ 3) = false := decide_eq_false (by omega)
  have m3 := eq_true (show 3 < L by omega)
  have n3 := eq_true (show (3 : Int) < (L : Int) by omega)
  have l4 : decide ((L : Int) ≤ 4) = false := decide_eq_false (by omega)
  have z4 : decide (L ≤ 4) = false := decide_eq_false (by omega)
  have m4 := eq_true (show 4 < L by omega)
  have n4 := eq_true (show (4 : Int) < (L : Int) by omega)
  have l5 : decide ((L : Int) ≤ 5) = false := decide_eq_false (by omega)
  have z5 : decide (L ≤ 5) = false := decide_eq_false (by omega)
  have m5 := eq_true (show 5 < L by omega)
  have n5 := eq_true (show (5 : Int) < (L : Int) by omega)
  have l6 : decide ((L : Int) ≤ 6) = false := decide_eq_false (by omega)
  have z6 : decide (L ≤ 6) = false := decide_eq_false (by omega)
  have m6 := eq_true (show 6 < L by omega)
  have n6 := eq_true (show (6 : Int) < (L : Int) by omega)
  have l7 : decide ((L : Int) ≤ 7) = false := decide_eq_false (by omega)
  have z7 : decide (L ≤ 7) = false := decide_eq_false (by omega)
  have m7 := eq_true (show 7 < L by omega)
  have n7 := eq_true (show (7 : Int) < (L : Int) by omega)
  have l8 : decide ((L : Int) ≤ 8) = false := decide_eq_false (by omega)
  have z8 : decide (L ≤ 8) = false := decide_eq_false (by omega)
  have m8 := eq_true (show 8 < L by omega)
  have n8 := eq_true (show (8 : Int) < (L : Int) by omega)
  have l9 : decide ((L : Int) ≤ 9) = false := decide_eq_false (by omega)
  have z9 : decide (L ≤ 9) = false := decide_eq_false (by omega)
  have m9 := eq_true (show 9 < L by omega)
  have n9 := eq_true (show (9 : Int) < (L : Int) by omega)
  have w0 : IntKind.u64.wrap b0 = b0 := by rw [IntKind.wrap_u64]; omega
  have w1 : IntKind.u64.wrap b1 = b1 := by rw [IntKind.wrap_u64]; omega
  have w2 : IntKind.u64.wrap b2 = b2 := by rw [IntKind.wrap_u64]; omega
  have w3 : IntKind.u64.wrap b3 = b3 := by rw [IntKind.wrap_u64]; omega
  have w4 : IntKind.u64.wrap b4 = b4 := by rw [IntKind.wrap_u64]; omega
  have w5 : IntKind.u64.wrap b5 = b5 := by rw [IntKind.wrap_u64]; omega
  have w6 : IntKind.u64.wrap b6 = b6 := by rw [IntKind.wrap_u64]; omega
  have w7 : IntKind.u64.wrap b7 = b7 := by rw [IntKind.wrap_u64]; omega
  have w8 : IntKind.u64.wrap b8 = b8 := by rw [IntKind.wrap_u64]; omega
  have w9 : IntKind.u64.wrap b9 = b9 := by rw [IntKind.wrap_u64]; omega
  obtain ⟨a1, ha1⟩ : ∃ x, x = b0 - 128 := ⟨_, rfl⟩
  have s1 : IntKind.u64.wrap (b0 - 128) = a1 := by rw [IntKind.wrap_u64]; omega
  obtain ⟨y1, hy1⟩ : ∃ x, x = b1 * 128 := ⟨_, rfl⟩
  have t1 : IntKind.u64.wrap (b1 * 128) = y1 := by rw [IntKind.wrap_u64]; omega
  obtain ⟨v1, hv1⟩ : ∃ x, x = a1 + y1 := ⟨_, rfl⟩
  have u1 : IntKind.u64.wrap (a1 + y1) = v1 := by rw [IntKind.wrap_u64]; omega
  obtain ⟨a2, ha2⟩ : ∃ x, x = v1 - 16384 := ⟨_, rfl⟩
  have s2 : IntKind.u64.wrap (v1 - 16384) = a2 := by rw [IntKind.wrap_u64]; omega
  obtain ⟨y2, hy2⟩ : ∃ x, x = b2 * 16384 := ⟨_, rfl⟩
  have t2 : IntKind.u64.wrap (b2 * 16384) = y2 := by rw [IntKind.wrap_u64]; omega
  obtain ⟨v2, hv2⟩ : ∃ x, x = a2 + y2 := ⟨_, rfl⟩
  have u2 : IntKind.u64.wrap (a2 + y2) = v2 := by rw [IntKind.wrap_u64]; omega
  obtain ⟨a3, ha3⟩ : ∃ x, x = v2 - 2097152 := ⟨_, rfl⟩
  have s3 : IntKind.u64.wrap (v2 - 2097152) = a3 := by rw [IntKind.wrap_u64]; omega
  obtain ⟨y3, hy3⟩ : ∃ x, x = b3 * 2097152 := ⟨_, rfl⟩
  have t3 : IntKind.u64.wrap (b3 * 2097152) = y3 := by rw [IntKind.wrap_u64]; omega
  obtain ⟨v3, hv3⟩ : ∃ x, x = a3 + y3 := ⟨_, rfl⟩
  have u3 : IntKind.u64.wrap (a3 + y3) = v3 := by rw [IntKind.wrap_u64]; omega
  obtain ⟨a4, ha4⟩ : ∃ x, x = v3 - 268435456 := ⟨_, rfl⟩
  have s4 : IntKind.u64.wrap (v3 - 268435456) = a4 := by rw [IntKind.wrap_u64]; omega
  obtain ⟨y4, hy4⟩ : ∃ x, x = b4 * 268435456 := ⟨_, rfl⟩
  have t4 : IntKind.u64.wrap (b4 * 268435456) = y4 := by rw [IntKind.wrap_u64]; omega
  obtain ⟨v4, hv4⟩ : ∃ x, x = a4 + y4 := ⟨_, rfl⟩
  have u4 : IntKind.u64.wrap (a4 + y4) = v4 := by rw [IntKind.wrap_u64]; omega
  obtain ⟨a5, ha5⟩ : ∃ x, x = v4 - 34359738368 := ⟨_, rfl⟩
  have s5 : IntKind.u64.wrap (v4 - 34359738368) = a5 := by rw [IntKind.wrap_u64]; omega
  obtain ⟨y5, hy5⟩ : ∃ x, x = b5 * 34359738368 := ⟨_, rfl⟩
  have t5 : IntKind.u64.wrap (b5 * 34359738368) = y5 := by rw [IntKind.wrap_u64]; omega
  obtain ⟨v5, hv5⟩ : ∃ x, x = a5 + y5 := ⟨_, rfl⟩
  have u5 : IntKind.u64.wrap (a5 + y5) = v5 := by rw [IntKind.wrap_u64]; omega
  obtain ⟨a6, ha6⟩ : ∃ x, x = v5 - 4398046511104 := ⟨_, rfl⟩
  have s6 : IntKind.u64.wrap (v5 - 4398046511104) = a6 := by rw [IntKind.wrap_u64]; omega
  obtain ⟨y6, hy6⟩ : ∃ x, x = b6 * 4398046511104 := ⟨_, rfl⟩
  have t6 : IntKind.u64.wrap (b6 * 4398046511104) = y6 := by rw [IntKind.wrap_u64]; omega
  obtain ⟨v6, hv6⟩ : ∃ x, x = a6 + y6 := ⟨_, rfl⟩
  have u6 : IntKind.u64.wrap (a6 + y6) = v6 := by rw [IntKind.wrap_u64]; omega
  obtain ⟨a7, ha7⟩ : ∃ x, x = v6 - 562949953421312 := ⟨_, rfl⟩
  have s7 : IntKind.u64.wrap (v6 - 562949953421312) = a7 := by rw [IntKind.wrap_u64]; omega
  obtain ⟨y7, hy7⟩ : ∃ x, x = b7 * 562949953421312 := ⟨_, rfl⟩
  have t7 : IntKind.u64.wrap (b7 * 562949953421312) = y7 := by rw [IntKind.wrap_u64]; omega
  obtain ⟨v7, hv7⟩ : ∃ x, x = a7 + y7 := ⟨_, rfl⟩
  have u7 : IntKind.u64.wrap (a7 + y7) = v7 := by rw [IntKind.wrap_u64]; omega
  obtain ⟨a8, ha8⟩ : ∃ x, x = v7 - 72057594037927936 := ⟨_, rfl⟩
  have s8 : IntKind.u64.wrap (v7 - 72057594037927936) = a8 := by rw [IntKind.wrap_u64]; omega
  obtain ⟨y8, hy8⟩ : ∃ x, x = b8 * 72057594037927936 := ⟨_, rfl⟩
  have t8 : IntKind.u64.wrap (b8 * 72057594037927936) = y8 := by rw [IntKind.wrap_u64]; omega
  obtain ⟨v8, hv8⟩ : ∃ x, x = a8 + y8 := ⟨_, rfl⟩
  have u8 : IntKind.u64.wrap (a8 + y8) = v8 := by rw [IntKind.wrap_u64]; omega
  obtain ⟨a9, ha9⟩ : ∃ x, x = v8 - 9223372036854775808 := ⟨_, rfl⟩
  have s9 : IntKind.u64.wrap (v8 - 9223372036854775808) = a9 := by rw [IntKind.wrap_u64]; omega
  have d0 : decide (b0 < 128) = false := decide_eq_false (by omega)
  have d1 : decide (b1 < 128) = false := decide_eq_false (by omega)
  have d2 : decide (b2 < 128) = false := decide_eq_false (by omega)
  have d3 : decide (b3 < 128) = false := decide_eq_false (by omega)
  have d4 : decide (b4 < 128) = false := decide_eq_false (by omega)
  have d5 : decide (b5 < 128) = false := decide_eq_false (by omega)
  have d6 : decide (b6 < 128) = false := decide_eq_false (by omega)
  have d7 : decide (b7 < 128) = false := decide_eq_false (by omega)
  have d8 : decide (b8 < 128) = false := decide_eq_false (by omega)
  have d9 : decide (b9 < 2) = false := decide_eq_false (by omega)
  have kk0 := k0
  rw [add_zero_] at kk0
  have kk1 : w.cell? { block := ad.block, off := ad.off + 1 } = some (.int .u8 b1) := by simpa [Addr.add] using k1
  have kk2 : w.cell? { block := ad.block, off := ad.off + 2 } = some (.int .u8 b2) := by simpa [Addr.add] using k2
  have kk3 : w.cell? { block := ad.block, off := ad.off + 3 } = some (.int .u8 b3) := by simpa [Addr.add] using k3
  have kk4 : w.cell? { block := ad.block, off := ad.off + 4 } = some (.int .u8 b4) := by simpa [Addr.add] using k4
  have kk5 : w.cell? { block := ad.block, off := ad.off + 5 } = some (.int .u8 b5) := by simpa [Addr.add] using k5
  have kk6 : w.cell? { block := ad.block, off := ad.off + 6 } = some (.int .u8 b6) := by simpa [Addr.add] using k6
  have kk7 : w.cell? { block := ad.block, off := ad.off + 7 } = some (.int .u8 b7) := by simpa [Addr.add] using k7
  have kk8 : w.cell? { block := ad.block, off := ad.off + 8 } = some (.int .u8 b8) := by simpa [Addr.add] using k8
  have kk9 : w.cell? { block := ad.block, off := ad.off + 9 } = some (.int .u8 b9) := by simpa [Addr.add] using k9
  clear h0 g0 h1 g1 h2 g2 h3 g3 h4 g4 h5 g5 h6 g6 h7 g7 h8 g8 h9 g9 ha1 ha2 ha3 ha4 ha5 ha6 ha7 ha8 ha9 hy1 hv1 hy2 hv2 hy3 hv3 hy4 hv4 hy5 hv5 hy6 hv6 hy7 hv7 hy8 hv8 hL
  go_enter Tryd.func52, Tryd.ntmps52
  go_wp2_with fail
  go_quiet (fail)
  go_wp2_with fail
  go_ret3
  refine ⟨rfl, ?_⟩
  first | exact Below.refl _ _ | exact below_drew (Below.refl _ _) | exact pw_below_drewN (Below.refl _ _) _
set_option maxHeartbeats 4000000 in
theorem scan_none (A : Option Addr) (c : Nat) (l : List Int) (w : World) (hc : ∀ j (hj : j < l.length), ∃ ad, A = some ad ∧ w.cell? (ad.add j) = some (.int .u8 l[j])) (hb : ∀ x ∈ l, 0 ≤ x ∧ x < 256) (h : scanV 0 0 l = none) (hE : ErrLaid w) :
    Calls Tryd.prog 52 #[.slice A l.length c] w fun e w' => ∃ t u, e = .returned (.tuple #[.int .u64 0, .int .i64 0, .iface t u]) ∧ Below w.heap.size w w' := by
  obtain ⟨t0, u0, g0⟩ := hE.a
  obtain ⟨t1, u1, g1⟩ := hE.b
  rcases l with _ | ⟨b0, l⟩
  · exact (scan_err0 A c  w t0 u0 g0  ).mono fun e w' ⟨h1, h2⟩ => ⟨t0, u0, h1, h2⟩
  have q0 := hb b0 (by simp)
  obtain ⟨ad, rfl, k0⟩ := hc 0 (by simp)
  rw [scanV, if_neg (by decide)] at h
  by_cases d0 : b0 < 128
  · exact absurd h (by rw [if_pos d0]; simp)
  rw [if_neg d0] at h
  rcases l with _ | ⟨b1, l⟩
  · exact (scan_err1 ad c b0 w t0 u0 g0 k0 (by omega) (by omega)).mono fun e w' ⟨h1, h2⟩ => ⟨t0, u0, h1, h2⟩
  have q1 := hb b1 (by simp)
  obtain ⟨ad1, e1, k1⟩ := hc 1 (by simp)
  obtain rfl := Option.some.inj e1
  rw [scanV, if_neg (by decide)] at h
  by_cases d1 : b1 < 128
  · exact absurd h (by rw [if_pos d1]; simp)
  rw [if_neg d1] at h
  rcases l with _ | ⟨b2, l⟩
  · exact (scan_err2 ad c b0 b1 w t0 u0 g0 k0 k1 (by omega) (by omega) (by omega) (by omega)).mono fun e w' ⟨h1, h2⟩ => ⟨t0, u0, h1, h2⟩
  have q2 := hb b2 (by simp)
  obtain ⟨ad2, e2, k2⟩ := hc 2 (by simp)
  obtain rfl := Option.some.inj e2
  rw [scanV, if_neg (by decide)] at h
  by_cases d2 : b2 < 128
  · exact absurd h (by rw [if_pos d2]; simp)
  rw [if_neg d2] at h
  rcases l with _ | ⟨b3, l⟩
  · exact (scan_err3 ad c b0 b1 b2 w t0 u0 g0 k0 k1 k2 (by omega) (by omega) (by omega) (by omega) (by omega) (by omega)).mono fun e w' ⟨h1, h2⟩ => ⟨t0, u0, h1, h2⟩
  have q3 := hb b3 (by simp)
  obtain ⟨ad3, e3, k3⟩ := hc 3 (by simp)
  obtain rfl := Option.some.inj e3
  rw [scanV, if_neg (by decide)] at h
  by_cases d3 : b3 < 128
  · exact absurd h (by rw [if_pos d3]; simp)
  rw [if_neg d3] at h
  rcases l with _ | ⟨b4, l⟩
  · exact (scan_err4 ad c b0 b1 b2 b3 w t0 u0 g0 k0 k1 k2 k3 (by omega) (by omega) (by omega) (by omega) (by omega) (by omega) (by omega) (by omega)).mono fun e w' ⟨h1, h2⟩ => ⟨t0, u0, h1, h2⟩
  have q4 := hb b4 (by simp)
  obtain ⟨ad4, e4, k4⟩ := hc 4 (by simp)
  obtain rfl := Option.some.inj e4
  rw [scanV, if_neg (by decide)] at h
  by_cases d4 : b4 < 128
  · exact absurd h (by rw [if_pos d4]; simp)
  rw [if_neg d4] at h
  rcases l with _ | ⟨b5, l⟩
  · exact (scan_err5 ad c b0 b1 b2 b3 b4 w t0 u0 g0 k0 k1 k2 k3 k4 (by omega) (by omega) (by omega) (by omega) (by omega) (by omega) (by omega) (by omega) (by omega) (by omega)).mono fun e w' ⟨h1, h2⟩ => ⟨t0, u0, h1, h2⟩
  have q5 := hb b5 (by simp)
  obtain ⟨ad5, e5, k5⟩ := hc 5 (by simp)
  obtain rfl := Option.some.inj e5
  rw [scanV, if_neg (by decide)] at h
  by_cases d5 : b5 < 128
  · exact absurd h (by rw [if_pos d5]; simp)
  rw [if_neg d5] at h
  rcases l with _ | ⟨b6, l⟩
  · exact (scan_err6 ad c b0 b1 b2 b3 b4 b5 w t0 u0 g0 k0 k1 k2 k3 k4 k5 (by omega) (by omega) (by omega) (by omega) (by omega) (by omega) (by omega) (by omega) (by omega) (by omega) (by omega) (by omega)).mono fun e w' ⟨h1, h2⟩ => ⟨t0, u0, h1, h2⟩
  have q6 := hb b6 (by simp)
  obtain ⟨ad6, e6, k6⟩ := hc 6 (by simp)
  obtain rfl := Option.some.inj e6
  rw [scanV, if_neg (by decide)] at h
  by_cases d6 : b6 < 128
  · exact absurd h (by rw [if_pos d6]; simp)
  rw [if_neg d6] at h
  rcases l with _ | ⟨b7, l⟩
  · exact (scan_err7 ad c b0 b1 b2 b3 b4 b5 b6 w t0 u0 g0 k0 k1 k2 k3 k4 k5 k6 (by omega) (by omega) (by omega) (by omega) (by omega) (by omega) (by omega) (by omega) (by omega) (by omega) (by omega) (by omega) (by omega) (by omega)).mono fun e w' ⟨h1, h2⟩ => ⟨t0, u0, h1, h2⟩
  have q7 := hb b7 (by simp)
  obtain ⟨ad7, e7, k7⟩ := hc 7 (by simp)
  obtain rfl := Option.some.inj e7
  rw [scanV, if_neg (by decide)] at h
  by_cases d7 : b7 < 128
  · exact absurd h (by rw [if_pos d7]; simp)
  rw [if_neg d7] at h
  rcases l with _ | ⟨b8, l⟩
  · exact (scan_err8 ad c b0 b1 b2 b3 b4 b5 b6 b7 w t0 u0 g0 k0 k1 k2 k3 k4 k5 k6 k7 (by omega) (by omega) (by omega) (by omega) (by omega) (by omega) (by omega) (by omega) (by omega) (by omega) (by omega) (by omega) (by omega) (by omega) (by omega) (by omega)).mono fun e w' ⟨h1, h2⟩ => ⟨t0, u0, h1, h2⟩
  have q8 := hb b8 (by simp)
  obtain ⟨ad8, e8, k8⟩ := hc 8 (by simp)
  obtain rfl := Option.some.inj e8
  rw [scanV, if_neg (by decide)] at h
  by_cases d8 : b8 < 128
  · exact absurd h (by rw [if_pos d8]; simp)
  rw [if_neg d8] at h
  rcases l with _ | ⟨b9, l⟩
  · exact (scan_err9 ad c b0 b1 b2 b3 b4 b5 b6 b7 b8 w t0 u0 g0 k0 k1 k2 k3 k4 k5 k6 k7 k8 (by omega) (by omega) (by omega) (by omega) (by omega) (by omega) (by omega) (by omega) (by omega) (by omega) (by omega) (by omega) (by omega) (by omega) (by omega) (by omega) (by omega) (by omega)).mono fun e w' ⟨h1, h2⟩ => ⟨t0, u0, h1, h2⟩
  have q9 := hb b9 (by simp)
  obtain ⟨ad9, e9, k9⟩ := hc 9 (by simp)
  obtain rfl := Option.some.inj e9
  rw [scanV, if_pos rfl] at h
  by_cases d9 : b9 < 2
  · exact absurd h (by rw [if_pos d9]; simp)
  exact (scan_over ad _ c b0 b1 b2 b3 b4 b5 b6 b7 b8 b9 w t1 u1 (by simp) g1 k0 k1 k2 k3 k4 k5 k6 k7 k8 k9 (by omega) (by omega) (by omega) (by omega) (by omega) (by omega) (by omega) (by omega) (by omega) (by omega) (by omega) (by omega) (by omega) (by omega) (by omega) (by omega) (by omega) (by omega) (by omega) (by omega)).mono fun e w' ⟨h1, h2⟩ => ⟨t1, u1, h1, h2⟩

end Go.Proofs.YtmfblbjklmgncaaDoor.ProtoErrW
