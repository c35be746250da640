/- WALKS: bytes with their number ahead. -/
import Derived.Test.YtmfblbjklmgncaaDoorProg
import Derived.Below
import Derived.Deep.Draws
import Derived.Deep.AppendLies
import Derived.Maps.AppendAt
import Derived.OwnWalk
import Derived.Laws.BytesArg
import Derived.Laws.MakeOwn
import Derived.Laws.OwnMore
import Derived.Deep.OwnRows
import Derived.Tactics
import Derived.Lib.ConvBytes
import Derived.Laws.Slices
import Derived.WalkKit
import Derived.KernelRfl
import Derived.RowKit3
import Derived.Deep.LoopGhost
import Derived.Deep.QuietTactic
import Derived.BigQuiet
import Derived.WideLaws
import Derived.Deep.DeepCutAuto
import Derived.Deep.CutBlock
import Derived.Deep.RegionHeld3
import Derived.Laws.Rows
import Derived.Lib.AppendStr
import Derived.ArgAppend
import Derived.Laws.IdiomCopy
import Derived.OrdersHeld
import Derived.Laws.BitsLemmas
import Derived.RowKit
import Derived.Test.YtmfblbjklmgncaaDoorProtoW
import Derived.Test.YtmfblbjklmgncaaDoorRoad
import Derived.Test.YtmfblbjklmgncaaDoorWWords
import Derived.Test.YtmfblbjklmgncaaDoorWLast
import Derived.Test.YtmfblbjklmgncaaDoorWTab
import Derived.Test.YtmfblbjklmgncaaDoorWFour
import Derived.Test.YtmfblbjklmgncaaDoorWQPut
import Derived.Test.YtmfblbjklmgncaaDoorWApart
import Derived.Test.YtmfblbjklmgncaaDoorWArr
import Derived.Test.YtmfblbjklmgncaaDoorWZeros
import Derived.Test.YtmfblbjklmgncaaDoorWFoot
import Derived.Test.YtmfblbjklmgncaaDoorWKept
import Derived.Test.YtmfblbjklmgncaaDoorWShare
import Derived.Test.YtmfblbjklmgncaaDoorWN
import Derived.Test.YtmfblbjklmgncaaDoorWFootNe
import Derived.Test.YtmfblbjklmgncaaDoorWAt
import Derived.Test.YtmfblbjklmgncaaDoorWEqStruct
import Derived.Test.YtmfblbjklmgncaaDoorWRepsOne
import Derived.Test.YtmfblbjklmgncaaDoorWInv
import Derived.Test.YtmfblbjklmgncaaDoorWInvWords
import Derived.Test.YtmfblbjklmgncaaDoorWGuard
import Derived.Test.YtmfblbjklmgncaaDoorWNEv
import Derived.Test.YtmfblbjklmgncaaDoorWMore
import Derived.Test.YtmfblbjklmgncaaDoorProtoErrW
import Derived.StillTailTactics
import Derived.OneCell
import Derived.RegionTactic
import Derived.Lib.EndianBits
namespace Go.Proofs.YtmfblbjklmgncaaDoor.ProtoBytesW
open Go.RowKit Go.Proofs.YtmfblbjklmgncaaDoorW.PrintWords Go.Proofs.YtmfblbjklmgncaaDoorW.PrintLast Go.Proofs.YtmfblbjklmgncaaDoorW.PrintMore
attribute [local go_sem] max2_int min2_int max_two min_two max_three min_three max_four min_four   -- for this text's walks alone
set_option linter.unusedVariables false
set_option linter.unusedSimpArgs false



open ProtoW ProtoErrW
/-- A row that can be read, cell by cell; each a byte. -/
structure Row8 (w : World) (A : Option Addr) (c : Nat) (l : List Int) : Prop where
  cells : ∀ j (hj : j < l.length), ∃ ad, A = some ad ∧ w.cell? (ad.add j) = some (.int .u8 l[j])
  bytes : ∀ x ∈ l, 0 ≤ x ∧ x < 256
  cap : l.length ≤ c
  small : l.length < 140737488355328
theorem Row8.below {w w' : World} {A : Option Addr} {c : Nat} {l : List Int} (h : Row8 w A c l) (hb : Below w.heap.size w w') : Row8 w' A c l := by
  refine ⟨fun j hj => ?_, h.bytes, h.cap, h.small⟩
  obtain ⟨ad, e, hc⟩ := h.cells j hj
  refine ⟨ad, e, ?_⟩
  have hlt : (ad.add j).block < w.heap.size := by
    by_cases hk : (ad.add j).block < w.heap.size
    · exact hk
    · simp [World.cell?, Array.getElem?_eq_none (Nat.le_of_not_lt hk)] at hc
  simpa only [World.cell?, hb.block _ hlt] using hc
theorem scan_some (A : Option Addr) (c : Nat) (l : List Int) (v n : Int) (w : World) (h : Row8 w A c l) (hs : scanV 0 0 l = some (v, n)) :
    Calls Tryd.prog 52 #[.slice A l.length c] w fun e w' => e = .returned (.tuple #[.int .u64 v, .int .i64 n, .nilIface]) ∧ Below w.heap.size w w' := by
  have hne : 0 < l.length := List.length_pos_iff.2 (by intro e; rw [e] at hs; simp [scanV] at hs)
  obtain ⟨ad, rfl, _⟩ := h.cells 0 hne
  refine scan_walk ad l.length c l v n w (Nat.le_refl _) (fun j hj => ?_) h.bytes hs
  obtain ⟨ad', e, hc⟩ := h.cells j hj
  obtain rfl := Option.some.inj e
  exact hc
def bytesV (l : List Int) : Option (Int × Int) :=
  match scanV 0 0 l with
  | none => none
  | some (v, n) => if v > (l.length : Int) - n then none else some (v, n)
set_option maxHeartbeats 8000000 in
set_option maxRecDepth 100000 in
theorem bytes_some (A : Option Addr) (c : Nat) (l : List Int) (v n : Int) (w : World) (h : Row8 w A c l) (hs : bytesV l = some (v, n)) :
    Calls Tryd.prog 51 #[.slice A l.length c] w fun e w' => e = .returned (.tuple #[.int .i64 (n + v), .nilIface]) ∧ Below w.heap.size w w' := by
  unfold bytesV at hs
  cases hv : scanV 0 0 l with
  | none => rw [hv] at hs; simp at hs
  | some p =>
    obtain ⟨v', n'⟩ := p
    rw [hv] at hs
    simp only at hs
    split at hs
    · simp at hs
    · rename_i hle
      simp only [Option.some.injEq, Prod.mk.injEq] at hs
      obtain ⟨rfl, rfl⟩ := hs
      have hz := scanV_size l 0 0 v' n' (by decide) hv
      have hne : 0 < l.length := List.length_pos_iff.2 (by intro e; rw [e] at hv; simp [scanV] at hv)
      obtain ⟨ad, rfl, hq⟩ := h.cells 0 hne
      clear hq
      obtain ⟨k, rfl⟩ := Int.eq_ofNat_of_zero_le (show 0 ≤ n' by omega)
      have hsm := h.small
      have hcp := h.cap
      have k1 := eq_true (show k ≤ l.length by omega)
      have k2 := eq_true (show (k : Int) ≤ (l.length : Int) by omega)
      have k3 := eq_true (show (0 : Int) ≤ (k : Int) by omega)
      have k4 := eq_true (show l.length ≤ c from hcp)
      obtain ⟨m, hm⟩ : ∃ m, m = l.length - k := ⟨_, rfl⟩
      have e1 : IntKind.u64.wrap ((l.length - k : Nat) : Int) = (m : Int) := by rw [IntKind.wrap_u64, hm]; omega
      have e2 : decide ((m : Int) < v') = false := decide_eq_false (by omega)
      have e3 : IntKind.i64.wrap v' = v' := by rw [IntKind.wrap_i64]; omega
      have e5 : wrap64 v' = v' := by unfold wrap64; omega
      obtain ⟨s, hsn⟩ : ∃ s, s = (k : Int) + v' := ⟨_, rfl⟩
      have e4 : wrap64 ((k : Int) + v') = s := by rw [hsn]; unfold wrap64; omega
      have H := Aside0.mk h
      have HV := Aside0.mk hv
      have HM := Aside0.mk hm
      have HS := Aside0.mk hsn
      clear h hv hz hle hsm hcp hne hm hsn
      go_enter Tryd.func51, Tryd.ntmps51
      go_wp2_with fail
      refine (scan_some (some ad) c l v' (k : Int) w H.out HV.out).mono ?_
      rintro e w1 ⟨rfl, hb1⟩
      have HB1 := Aside0.mk hb1
      clear hb1
      go_wp2_with fail
      all_goals go_ret2
      all_goals exact ⟨by rw [HS.out]; rfl, HB1.out⟩
set_option maxHeartbeats 8000000 in
set_option maxRecDepth 100000 in
theorem bytes_none (A : Option Addr) (c : Nat) (l : List Int) (w : World) (h : Row8 w A c l) (hs : bytesV l = none) (hE : ErrLaid w) :
    Calls Tryd.prog 51 #[.slice A l.length c] w fun e w' => ∃ t u, e = .returned (.tuple #[.int .i64 0, .iface t u]) ∧ Below w.heap.size w w' := by
  unfold bytesV at hs
  cases hv : scanV 0 0 l with
  | none =>
    have H := Aside0.mk h
    have HV := Aside0.mk hv
    have HE := Aside0.mk hE
    clear h hv hs hE
    go_enter Tryd.func51, Tryd.ntmps51
    go_wp2_with fail
    refine (scan_none A c l w H.out.cells H.out.bytes HV.out HE.out).mono ?_
    rintro e w1 ⟨t, u, rfl, hb1⟩
    have HB1 := Aside0.mk hb1
    clear hb1
    go_wp2_with fail
    go_ret2
    exact ⟨t, u, rfl, HB1.out⟩
  | some p =>
    obtain ⟨v', n'⟩ := p
    rw [hv] at hs
    simp only at hs
    split at hs
    · rename_i hgt
      have hz := scanV_size l 0 0 v' n' (by decide) hv
      have hne : 0 < l.length := List.length_pos_iff.2 (by intro e; rw [e] at hv; simp [scanV] at hv)
      obtain ⟨ad, rfl, hq⟩ := h.cells 0 hne
      clear hq
      obtain ⟨k, rfl⟩ := Int.eq_ofNat_of_zero_le (show 0 ≤ n' by omega)
      have hsm := h.small
      have hcp := h.cap
      have k1 := eq_true (show k ≤ l.length by omega)
      have k2 := eq_true (show (k : Int) ≤ (l.length : Int) by omega)
      have k3 := eq_true (show (0 : Int) ≤ (k : Int) by omega)
      have k4 := eq_true (show l.length ≤ c from hcp)
      obtain ⟨m, hm⟩ : ∃ m, m = l.length - k := ⟨_, rfl⟩
      have e1 : IntKind.u64.wrap ((l.length - k : Nat) : Int) = (m : Int) := by rw [IntKind.wrap_u64, hm]; omega
      have e2 : decide ((m : Int) < v') = true := decide_eq_true (by omega)
      have H := Aside0.mk h
      have HV := Aside0.mk hv
      have HE := Aside0.mk hE
      clear h hv hz hgt hsm hcp hne hm hE hs
      go_enter Tryd.func51, Tryd.ntmps51
      go_wp2_with fail
      refine (scan_some (some ad) c l v' (k : Int) w H.out HV.out).mono ?_
      rintro e w1 ⟨rfl, hb1⟩
      have HB1 := Aside0.mk hb1
      obtain ⟨t, u, hg⟩ := (HE.out.below hb1).a
      clear hb1
      go_wp2_with fail
      all_goals go_quiet (fail)
      all_goals go_wp2_with fail
      all_goals go_ret2
      all_goals exact ⟨t, u, rfl, pw_below_drewN HB1.out _⟩
    · simp at hs
theorem door_some (A : Option Addr) (c : Nat) (l : List Int) (v n : Int) (w : World) (h : Row8 w A c l) (hs : bytesV l = some (v, n)) :
    Calls Tryd.prog 33 #[.slice A l.length c] w fun e w' => e = .returned (.tuple #[.int .i64 (n + v), .nilIface]) ∧ Below w.heap.size w w' := by
  go_enter Tryd.func33, Tryd.ntmps33
  go_wp2_with fail
  refine (bytes_some A c l v n w h hs).mono ?_
  rintro e w1 ⟨rfl, hb1⟩
  go_wp2_with fail
  go_ret2
  exact ⟨rfl, hb1⟩
theorem door_none (A : Option Addr) (c : Nat) (l : List Int) (w : World) (h : Row8 w A c l) (hs : bytesV l = none) (hE : ErrLaid w) :
    Calls Tryd.prog 33 #[.slice A l.length c] w fun e w' => ∃ t u, e = .returned (.tuple #[.int .i64 0, .iface t u]) ∧ Below w.heap.size w w' := by
  go_enter Tryd.func33, Tryd.ntmps33
  go_wp2_with fail
  refine (bytes_none A c l w h hs hE).mono ?_
  rintro e w1 ⟨t, u, rfl, hb1⟩
  go_wp2_with fail
  go_ret2
  exact ⟨t, u, rfl, hb1⟩
theorem door_scan (A : Option Addr) (c : Nat) (l : List Int) (v n : Int) (w : World) (h : Row8 w A c l) (hs : scanV 0 0 l = some (v, n)) :
    Calls Tryd.prog 34 #[.slice A l.length c] w fun e w' => e = .returned (.tuple #[.int .u64 v, .int .i64 n, .nilIface]) ∧ Below w.heap.size w w' := by
  go_enter Tryd.func34, Tryd.ntmps34
  go_wp2_with fail
  refine (scan_some A c l v n w h hs).mono ?_
  rintro e w1 ⟨rfl, hb1⟩
  go_wp2_with fail
  go_ret3
  exact ⟨rfl, hb1⟩

end Go.Proofs.YtmfblbjklmgncaaDoor.ProtoBytesW
