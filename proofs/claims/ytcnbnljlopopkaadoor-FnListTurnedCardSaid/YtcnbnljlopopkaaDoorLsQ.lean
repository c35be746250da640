/- WALKS, as the print wrote them: gsl_zzSplit. -/
import Derived.Test.YtcnbnljlopopkaaDoorProg
import Derived.Below
import Derived.Deep.Draws
import Derived.Deep.AppendLies
import Derived.Maps.AppendAt
import Derived.OwnWalk
import Derived.Laws.BytesArg
import Derived.Laws.MakeOwn
import Derived.Laws.OwnMore
import Derived.Deep.OwnRows
import Derived.Tactics
import Derived.Lib.ConvBytes
import Derived.Laws.Slices
import Derived.WalkKit
import Derived.KernelRfl
import Derived.RowKit3
import Derived.Deep.LoopGhost
import Derived.Deep.QuietTactic
import Derived.BigQuiet
import Derived.WideLaws
import Derived.Deep.DeepCutAuto
import Derived.Deep.CutBlock
import Derived.Deep.RegionHeld3
import Derived.Laws.Rows
import Derived.Lib.AppendStr
import Derived.ArgAppend
import Derived.Laws.IdiomCopy
import Derived.OrdersHeld
import Derived.Laws.BitsLemmas
import Derived.RowKit
import Derived.Test.YtcnbnljlopopkaaDoorWWords
import Derived.Test.YtcnbnljlopopkaaDoorWLast
import Derived.Test.YtcnbnljlopopkaaDoorWTab
import Derived.Test.YtcnbnljlopopkaaDoorWFour
import Derived.Test.YtcnbnljlopopkaaDoorWQPut
import Derived.Test.YtcnbnljlopopkaaDoorWApart
import Derived.Test.YtcnbnljlopopkaaDoorWArr
import Derived.Test.YtcnbnljlopopkaaDoorWZeros
import Derived.Test.YtcnbnljlopopkaaDoorWFoot
import Derived.Test.YtcnbnljlopopkaaDoorWKept
import Derived.Test.YtcnbnljlopopkaaDoorWShare
import Derived.Test.YtcnbnljlopopkaaDoorWN
import Derived.Test.YtcnbnljlopopkaaDoorWFootNe
import Derived.Test.YtcnbnljlopopkaaDoorWAt
import Derived.Test.YtcnbnljlopopkaaDoorWEqStruct
import Derived.Test.YtcnbnljlopopkaaDoorWRepsOne
import Derived.Test.YtcnbnljlopopkaaDoorWInv
import Derived.Test.YtcnbnljlopopkaaDoorWInvWords
import Derived.Test.YtcnbnljlopopkaaDoorWGuard
import Derived.Test.YtcnbnljlopopkaaDoorWNEv
import Derived.Test.YtcnbnljlopopkaaDoorWMore
namespace Go.Proofs.YtcnbnljlopopkaaDoor.LsQ
open Go.RowKit Go.Proofs.YtcnbnljlopopkaaDoorW.PrintWords Go.Proofs.YtcnbnljlopopkaaDoorW.PrintLast Go.Proofs.YtcnbnljlopopkaaDoorW.PrintMore
attribute [local go_sem] max2_int min2_int max_two min_two max_three min_three max_four min_four   -- for this text's walks alone
set_option linter.unusedVariables false
set_option linter.unusedSimpArgs false



def errW : Option Int → Value
 | none => .nilIface
 | some c => .iface 0 (.int .i64 c)
theorem errW_none : errW none = .nilIface := rfl
theorem errW_some (c : Int) : errW (some c) = .iface 0 (.int .i64 c) := rfl

theorem info3 : (Tryd.prog.info? 3).map (fun i => (i.zero, i.size, i.bytes)) = some (some (.int .i64 0), 1, 8) := by kernel_rfl
theorem info9 : (Tryd.prog.info? 9).map (fun i => (i.zero, i.size, i.bytes)) = some (some (.string ⟨#[]⟩), 1, 16) := by kernel_rfl
theorem info31 : (Tryd.prog.info? 31).map (fun i => (i.zero, i.size, i.bytes)) = some (some (.agg #[(.string ⟨#[]⟩), (.int .i64 0)]), 2, 24) := by kernel_rfl
-- the values' own types
/-! #### struct type 51 -/
structure S51 where
 f0 : Int
 f1 : ByteArray
 f2 : Int
def z51 : S51 := ⟨(0 : Int), (⟨#[]⟩ : ByteArray), (0 : Int)⟩
def k51 : Kd S51 := Kd.iso (Kd.pair (Kd.int .i64) (Kd.pair Kd.string (Kd.int .i64))) (fun x : S51 => (x.f0, x.f1, x.f2))
theorem k51_open {w : World} {x : S51} {cs : List Value} (h : k51.K w x cs) : cs = [.int .i64 x.f0, .string x.f1, .int .i64 x.f2] := by
 obtain ⟨_, _, rfl, rfl, ⟨_, _, rfl, rfl, rfl⟩⟩ := h
 exact rfl
theorem k51_openM {w : World} {base : Nat} {ok : Nat → Prop} {x : S51} {cs : List Value} (h : k51.M w base ok x cs) : cs = [.int .i64 x.f0, .string x.f1, .int .i64 x.f2] := by
 obtain ⟨_, _, rfl, rfl, ⟨_, _, rfl, rfl, rfl⟩⟩ := h
 exact rfl
theorem k51_mk (w : World) (x : S51)  : k51.K w x [.int .i64 x.f0, .string x.f1, .int .i64 x.f2] := ⟨[.int .i64 x.f0], [.string x.f1, .int .i64 x.f2], rfl, rfl, ⟨[.string x.f1], [.int .i64 x.f2], rfl, rfl, rfl⟩⟩
theorem k51_mkM (w : World) (base : Nat) (ok : Nat → Prop) (x : S51)  : k51.M w base ok x [.int .i64 x.f0, .string x.f1, .int .i64 x.f2] := ⟨[.int .i64 x.f0], [.string x.f1, .int .i64 x.f2], rfl, rfl, ⟨[.string x.f1], [.int .i64 x.f2], rfl, rfl, rfl⟩⟩
def rd_T51 (xs : List S51) (i : Int) : S51 := xs.getD i.toNat z51
theorem at_T51 {w : World} {A : Option Addr} {n : Nat} {xs : List S51} (h : Kd.C k51 w A n xs) (i : Int) (h0 : 0 ≤ i) (h1 : i < n) : ∃ ad , A = some ad ∧ w.cell? (ad.add (i.toNat * 3)) = some (.int .i64 (rd_T51 xs i).f0) ∧ w.cell? ⟨(ad.add (i.toNat * 3)).block, (ad.add (i.toNat * 3)).off + 1, none⟩ = some (.string (rd_T51 xs i).f1) ∧ w.cell? ⟨(ad.add (i.toNat * 3)).block, (ad.add (i.toNat * 3)).off + 2, none⟩ = some (.int .i64 (rd_T51 xs i).f2) := by
 obtain ⟨ad, c, e, _, hK, hc0⟩ := Kd.C_get h z51 i h0 h1
 have hc : ∀ j u, c[j]? = some u → w.cell? (ad.add (i.toNat * 3 + j)) = some u := hc0
 obtain rfl := k51_open hK
 exact ⟨ad, e, hc 0 _ rfl, by rw [← add_field _ _ 1 (by omega)]; exact hc 1 _ rfl, by rw [← add_field _ _ 2 (by omega)]; exact hc 2 _ rfl⟩

/-! #### struct type 31 -/
structure S31 where
 f0 : ByteArray
 f1 : Int
def z31 : S31 := ⟨(⟨#[]⟩ : ByteArray), (0 : Int)⟩
def k31 : Kd S31 := Kd.iso (Kd.pair Kd.string (Kd.int .i64)) (fun x : S31 => (x.f0, x.f1))
theorem k31_open {w : World} {x : S31} {cs : List Value} (h : k31.K w x cs) : cs = [.string x.f0, .int .i64 x.f1] := by
 obtain ⟨_, _, rfl, rfl, rfl⟩ := h
 exact rfl
theorem k31_openM {w : World} {base : Nat} {ok : Nat → Prop} {x : S31} {cs : List Value} (h : k31.M w base ok x cs) : cs = [.string x.f0, .int .i64 x.f1] := by
 obtain ⟨_, _, rfl, rfl, rfl⟩ := h
 exact rfl
theorem k31_mk (w : World) (x : S31)  : k31.K w x [.string x.f0, .int .i64 x.f1] := ⟨[.string x.f0], [.int .i64 x.f1], rfl, rfl, rfl⟩
theorem k31_mkM (w : World) (base : Nat) (ok : Nat → Prop) (x : S31)  : k31.M w base ok x [.string x.f0, .int .i64 x.f1] := ⟨[.string x.f0], [.int .i64 x.f1], rfl, rfl, rfl⟩
def rd_T31 (xs : List S31) (i : Int) : S31 := xs.getD i.toNat z31
theorem at_T31 {w : World} {A : Option Addr} {n : Nat} {xs : List S31} (h : Kd.C k31 w A n xs) (i : Int) (h0 : 0 ≤ i) (h1 : i < n) : ∃ ad , A = some ad ∧ w.cell? (ad.add (i.toNat * 2)) = some (.string (rd_T31 xs i).f0) ∧ w.cell? ⟨(ad.add (i.toNat * 2)).block, (ad.add (i.toNat * 2)).off + 1, none⟩ = some (.int .i64 (rd_T31 xs i).f1) := by
 obtain ⟨ad, c, e, _, hK, hc0⟩ := Kd.C_get h z31 i h0 h1
 have hc : ∀ j u, c[j]? = some u → w.cell? (ad.add (i.toNat * 2 + j)) = some u := hc0
 obtain rfl := k31_open hK
 exact ⟨ad, e, hc 0 _ rfl, by rw [← add_field _ _ 1 (by omega)]; exact hc 1 _ rfl⟩

/-! ### gsl_zzSplit -/
def gsl_zzSplit.l0 : Nat → ByteArray → ByteArray → List ByteArray → Int → Int → Option (List ByteArray)
 | 0, _, _, _, _, _ => none
 | k + 1, x0, x1, x5, x6, x7 => if x7 < (x0.size : Int) then (if 0 ≤ x7 then (if 0 < (x1.size : Int) then (if (bt x0 x7) = (bt x1 0) then (if 0 ≤ x6 then (if x6 ≤ x7 then (if x7 ≤ (x0.size : Int) then (if x5.length < 8796093022208 then (gsl_zzSplit.l0 k x0 x1 (x5 ++ [x0.extract (x6 : Int).toNat (x7 : Int).toNat]) (wrap64 (x7 + 1)) (wrap64 (x7 + 1))) else (none)) else (none)) else (none)) else (none)) else (gsl_zzSplit.l0 k x0 x1 x5 x6 (wrap64 (x7 + 1)))) else (none)) else (none)) else (if 0 ≤ x6 then (if x6 ≤ (x0.size : Int) then (if x5.length < 8796093022208 then (some (x5 ++ [x0.extract (x6 : Int).toNat x0.size])) else (none)) else (none)) else (none))
def gsl_zzSplit.f (k : Nat) (a0 : ByteArray) (a1 : ByteArray) : Option (List ByteArray) := gsl_zzSplit.l0 k a0 a1 ([] : List ByteArray) 0 0
theorem gsl_zzSplit.mono_l : ∀ k, (∀ y0 y1 y2 y3 y4, LeO (gsl_zzSplit.l0 k y0 y1 y2 y3 y4) (gsl_zzSplit.l0 (k + 1) y0 y1 y2 y3 y4))
 | 0 => fun _ _ _ _ _ r h => by simp [gsl_zzSplit.l0] at h
 | k + 1 => by
  have ih0 := gsl_zzSplit.mono_l k
  ·
   intro y0 y1 y2 y3 y4
   unfold gsl_zzSplit.l0
   repeat' first
   | (with_reducible exact ih0 _ _ _ _ _)
   | (with_reducible exact LeO.refl _)
   | (with_reducible exact LeO.none _)
   | (with_reducible refine LeO.ite ?_ ?_)
   | (with_reducible refine LeO.bind ?_ (fun _ => ?_))
   | exact ih0 _ _ _ _ _
   | exact LeO.none _
   | refine LeO.ite ?_ ?_
   | refine LeO.bind ?_ (fun _ => ?_)
theorem gsl_zzSplit.mono : ∀ a0 a1 k, LeO (gsl_zzSplit.f k a0 a1) (gsl_zzSplit.f (k + 1) a0 a1) := by
 intro a0 a1 k
 have ih0 := gsl_zzSplit.mono_l k
 unfold gsl_zzSplit.f
 repeat' first
   | (with_reducible exact ih0 _ _ _ _ _)
   | (with_reducible exact LeO.refl _)
   | (with_reducible exact LeO.none _)
   | (with_reducible refine LeO.ite ?_ ?_)
   | (with_reducible refine LeO.bind ?_ (fun _ => ?_))
   | exact ih0 _ _ _ _ _
   | exact LeO.none _
   | refine LeO.ite ?_ ?_
   | refine LeO.bind ?_ (fun _ => ?_)
set_option maxHeartbeats 8000000 in
set_option maxRecDepth 100000 in
theorem gsl_zzSplit.calls (k : Nat) (a0 : ByteArray) (a1 : ByteArray) (r : List ByteArray) (w : World) (h : gsl_zzSplit.f k a0 a1 = some r) :
  Calls Tryd.prog 60 #[.string a0, .string a1] w fun e w' => ∃ v0_ : Value, e = .returned (v0_) ∧ Kd.R Kd.string 9 w' w.heap.size (fun _ => True) v0_ r ∧ Below w.heap.size w w' := by
 have HB := Aside0.mk (Below.refl w.heap.size w)
 have H : (gsl_zzSplit.l0 k a0 a1 ([] : List ByteArray) 0 0) = some r := h
 clear h
 have H' := Aside0.mk H
 clear H
 go_enter Tryd.func60, Tryd.ntmps60
 go_wp2
 repeat (go_quiet (fail); try go_wp2)
 go_loopg [5, 6, 7] k (fun kq v5 v6 v7 w' => ∃ (x5_1 : List ByteArray) (x6_1 : Int) (x7_1 : Int), v6 = .int .i64 x6_1 ∧ v7 = .int .i64 x7_1 ∧ Aside0 (gsl_zzSplit.l0 kq a0 a1 x5_1 x6_1 x7_1 = some r) ∧ Aside0 (kq ≤ k) ∧ Aside0 (Kd.R Kd.string 9 w' w.heap.size (fun _ => True) v5 x5_1) ∧ Aside0 (Below w.heap.size w w'))
 case atStart => exact ⟨(([] : List ByteArray)), (0), (0), (by first | rfl | (simp; done) | (simp [*]; done)), (by first | rfl | (simp; done) | (simp [*]; done)), H', ⟨Nat.le_refl _⟩, ⟨by first | exact Kd.R_nil _ _ _ _ _ | exact Kd.N_nil _ _ _ _ _ | exact Kd.V_nil _ _ _ _ _ | exact Kd.Q_nil _ _ _ _ _ | exact Kd.S_nil _ _ _ _ _⟩, ⟨by repeat (first | (with_reducible first | exact HB.out | apply below_alloc | apply pw_below_drewN | apply below_drew1) | exact HB.out)⟩⟩
 case round =>
  clear H'
  try clear p2
  obtain ⟨x5_1, x6_1, x7_1, rfl, rfl, HA, HK1, HO_5, HB⟩ := hrel
  cases gk with
  | zero => exact absurd HA.out (by simp [gsl_zzSplit.l0])
  | succ k1 =>
   have H := HA.out
   clear HA
   simp only [gsl_zzSplit.l0] at H
   by_cases c3 : x7_1 < (a0.size : Int)
   ·
    rw [if_pos c3] at H
    have c3b0 : decide (x7_1 < (a0.size : Int)) = true := decide_eq_true c3
    clear c3
    by_cases c4 : 0 ≤ x7_1
    ·
     rw [if_pos c4] at H
     have c4b0 : decide (0 ≤ x7_1) = true := decide_eq_true c4
     clear c4
     by_cases c6 : 0 < (a1.size : Int)
     ·
      rw [if_pos c6] at H
      have c6b0 : decide (0 < (a1.size : Int)) = true := decide_eq_true c6
      have c6b1 : decide (0 < a1.size) = true := decide_eq_true (by omega)
      clear c6
      by_cases c8 : (bt a0 x7_1) = (bt a1 0)
      ·
       rw [if_pos c8] at H
       have c8b0 : ((bt a0 x7_1) == (bt a1 0)) = true := beq_iff_eq.mpr c8
       have c8b1 : ((bt a0 x7_1) != (bt a1 0)) = false := bne_eq_false_iff_eq.mpr c8
       clear c8
       by_cases c9 : 0 ≤ x6_1
       ·
        rw [if_pos c9] at H
        have c9b0 := eq_true c9
        have c9b1 : decide (0 ≤ x6_1) = true := decide_eq_true c9
        clear c9
        by_cases c10 : x6_1 ≤ x7_1
        ·
         rw [if_pos c10] at H
         have c10b0 := eq_true c10
         have c10b1 : decide (x6_1 ≤ x7_1) = true := decide_eq_true c10
         clear c10
         by_cases c11 : x7_1 ≤ (a0.size : Int)
         ·
          rw [if_pos c11] at H
          have c11b0 := eq_true c11
          have c11b1 : decide (x7_1 ≤ (a0.size : Int)) = true := decide_eq_true c11
          clear c11
          by_cases c12 : x5_1.length < 8796093022208
          ·
           rw [if_pos c12] at H
           have LMc12 := Aside0.mk c12
           clear c12
           obtain ⟨y106, hy106⟩ : ∃ y_ : List ByteArray, y_ = (x5_1 ++ [a0.extract (x6_1 : Int).toNat (x7_1 : Int).toNat]) := ⟨_, rfl⟩
           replace H : (gsl_zzSplit.l0 k1 a0 a1 y106 (wrap64 (x7_1 + 1)) (wrap64 (x7_1 + 1))) = some r := by first | (rw [hy106]; with_reducible exact H) | (have H2_ := (Option.bind_some _ _).symm.trans H; rw [hy106]; with_reducible exact H2_) | (have H2_ := (Option.bind_some _ _).symm.trans H; with_reducible exact H2_) | with_reducible exact H | (rw [hy106]; exact H) | exact H
           have Ny106 := Aside0.mk hy106
           clear hy106
           have H' := Aside0.mk H
           clear H
           have p5 : 0 ≤ (x7_1 : Int) := of_decide_eq_true (by first | (with_reducible assumption) | assumption)
           have q5 : x7_1 < (a0.size : Int) := of_decide_eq_true (by first | (with_reducible assumption) | assumption)
           have hx5 := bt_at a0 x7_1
           replace p5 := eq_true p5
           replace q5 := eq_true q5
           have p7 : 0 ≤ (0 : Int) := (by omega)
           have q7 : 0 < a1.size := (by have : (0 : Int) < (a1.size : Int) := of_decide_eq_true (by first | (with_reducible assumption) | assumption); omega)
           have hx7 : ∀ h : 0 < a1.size, ((a1[0]'h).toNat : Int) = bt a1 0 := bt_at a1 0
           clear p7
           have qi7 : (0 < (a1.size : Int)) = True := eq_true (of_decide_eq_true (by first | (with_reducible assumption) | assumption))
           replace q7 := eq_true q7
           go_wp2_with (first | ((with_reducible refine gate_builtin (b := .append) (xs := #[.tmp 20, .tmp 25]) rfl ?_); at_builtin; refine Kd.R_append Kd.string (w0 := w) w.heap.size rfl (.tmp 20) (.tmp 25) 35 9 (.string ⟨#[]⟩) 16 rfl Tryd.underlying35 info9 rfl (by decide) (by omega) u5 x5_1 (a0.extract (x6_1 : Int).toNat (x7_1 : Int).toNat) [.string (a0.extract (x6_1 : Int).toNat (x7_1 : Int).toNat)] (fun _ => True) (fun _ => False) rfl rfl ?aP (fun _ hk => hk.elim) ?aF ?aO ?aB ?aS ?aL ?_; (case aP => exact rfl); (case aB => exact (by repeat (first | (with_reducible first | exact HB.out | apply below_alloc | apply pw_below_drewN | apply below_drew1) | exact HB.out))); (case aF => exact (fun _ _ => trivial)); (case aO => exact (by (with_reducible repeat (first | apply Kd.R_alloc | apply Kd.R_drewN | apply Kd.R_drew)); exact HO_5.out)); (case aS => exact (below_size (by repeat (first | (with_reducible first | exact HB.out | apply below_alloc | apply pw_below_drewN | apply below_drew1) | exact HB.out)))); (case aL => have := LMc12.out; omega); intro v107 w13 ho hb hg hat; rw [← Ny106.out] at ho; have n0_ := Aside0.mk (hb); have n1_ := Aside0.mk (ho); clear HB; clear HO_5; have HB := n0_; have HO108 := n1_; clear n0_ n1_; clear ho hb hg hat))
           repeat (go_quiet (first | ((with_reducible refine gate_builtin (b := .append) (xs := #[.tmp 20, .tmp 25]) rfl ?_); at_builtin; refine Kd.R_append Kd.string (w0 := w) w.heap.size rfl (.tmp 20) (.tmp 25) 35 9 (.string ⟨#[]⟩) 16 rfl Tryd.underlying35 info9 rfl (by decide) (by omega) u5 x5_1 (a0.extract (x6_1 : Int).toNat (x7_1 : Int).toNat) [.string (a0.extract (x6_1 : Int).toNat (x7_1 : Int).toNat)] (fun _ => True) (fun _ => False) rfl rfl ?aP (fun _ hk => hk.elim) ?aF ?aO ?aB ?aS ?aL ?_; (case aP => exact rfl); (case aB => exact (by repeat (first | (with_reducible first | exact HB.out | apply below_alloc | apply pw_below_drewN | apply below_drew1) | exact HB.out))); (case aF => exact (fun _ _ => trivial)); (case aO => exact (by (with_reducible repeat (first | apply Kd.R_alloc | apply Kd.R_drewN | apply Kd.R_drew)); exact HO_5.out)); (case aS => exact (below_size (by repeat (first | (with_reducible first | exact HB.out | apply below_alloc | apply pw_below_drewN | apply below_drew1) | exact HB.out)))); (case aL => have := LMc12.out; omega); intro v107 w13 ho hb hg hat; rw [← Ny106.out] at ho; have n0_ := Aside0.mk (hb); have n1_ := Aside0.mk (ho); clear HB; clear HO_5; have HB := n0_; have HO108 := n1_; clear n0_ n1_; clear ho hb hg hat)); try go_wp2_with (first | ((with_reducible refine gate_builtin (b := .append) (xs := #[.tmp 20, .tmp 25]) rfl ?_); at_builtin; refine Kd.R_append Kd.string (w0 := w) w.heap.size rfl (.tmp 20) (.tmp 25) 35 9 (.string ⟨#[]⟩) 16 rfl Tryd.underlying35 info9 rfl (by decide) (by omega) u5 x5_1 (a0.extract (x6_1 : Int).toNat (x7_1 : Int).toNat) [.string (a0.extract (x6_1 : Int).toNat (x7_1 : Int).toNat)] (fun _ => True) (fun _ => False) rfl rfl ?aP (fun _ hk => hk.elim) ?aF ?aO ?aB ?aS ?aL ?_; (case aP => exact rfl); (case aB => exact (by repeat (first | (with_reducible first | exact HB.out | apply below_alloc | apply pw_below_drewN | apply below_drew1) | exact HB.out))); (case aF => exact (fun _ _ => trivial)); (case aO => exact (by (with_reducible repeat (first | apply Kd.R_alloc | apply Kd.R_drewN | apply Kd.R_drew)); exact HO_5.out)); (case aS => exact (below_size (by repeat (first | (with_reducible first | exact HB.out | apply below_alloc | apply pw_below_drewN | apply below_drew1) | exact HB.out)))); (case aL => have := LMc12.out; omega); intro v107 w13 ho hb hg hat; rw [← Ny106.out] at ho; have n0_ := Aside0.mk (hb); have n1_ := Aside0.mk (ho); clear HB; clear HO_5; have HB := n0_; have HO108 := n1_; clear n0_ n1_; clear ho hb hg hat)))
           go_roundg k1
           case measure => have := HK1.out; omega
           case rel => exact ⟨(y106), (wrap64 (x7_1 + 1)), (wrap64 (x7_1 + 1)), (by first | rfl | (simp; done) | (simp [*]; done)), (by first | rfl | (simp; done) | (simp [*]; done)), H', ⟨by have := HK1.out; omega⟩, ⟨by (with_reducible repeat (first | apply Kd.R_alloc | apply Kd.R_drewN | apply Kd.R_drew)); exact HO108.out⟩, ⟨by repeat (first | (with_reducible first | exact HB.out | apply below_alloc | apply pw_below_drewN | apply below_drew1) | exact HB.out)⟩⟩
          ·
           rw [if_neg c12] at H
           exact absurd H (by simp)
         ·
          rw [if_neg c11] at H
          exact absurd H (by simp)
        ·
         rw [if_neg c10] at H
         exact absurd H (by simp)
       ·
        rw [if_neg c9] at H
        exact absurd H (by simp)
      ·
       rw [if_neg c8] at H
       have c8b0 : ((bt a0 x7_1) == (bt a1 0)) = false := beq_eq_false_iff_ne.mpr c8
       have c8b1 : ((bt a0 x7_1) != (bt a1 0)) = true := bne_iff_ne.mpr c8
       have H' := Aside0.mk H
       clear H
       have p5 : 0 ≤ (x7_1 : Int) := of_decide_eq_true (by first | (with_reducible assumption) | assumption)
       have q5 : x7_1 < (a0.size : Int) := of_decide_eq_true (by first | (with_reducible assumption) | assumption)
       have hx5 := bt_at a0 x7_1
       replace p5 := eq_true p5
       replace q5 := eq_true q5
       have p7 : 0 ≤ (0 : Int) := (by omega)
       have q7 : 0 < a1.size := (by have : (0 : Int) < (a1.size : Int) := of_decide_eq_true (by first | (with_reducible assumption) | assumption); omega)
       have hx7 : ∀ h : 0 < a1.size, ((a1[0]'h).toNat : Int) = bt a1 0 := bt_at a1 0
       clear p7
       have qi7 : (0 < (a1.size : Int)) = True := eq_true (of_decide_eq_true (by first | (with_reducible assumption) | assumption))
       replace q7 := eq_true q7
       go_wp2
       repeat (go_quiet (fail); try go_wp2)
       go_roundg k1
       case measure => have := HK1.out; omega
       case rel => exact ⟨(x5_1), (x6_1), (wrap64 (x7_1 + 1)), (by first | rfl | (simp; done) | (simp [*]; done)), (by first | rfl | (simp; done) | (simp [*]; done)), H', ⟨by have := HK1.out; omega⟩, ⟨by (with_reducible repeat (first | apply Kd.R_alloc | apply Kd.R_drewN | apply Kd.R_drew)); exact HO_5.out⟩, ⟨by repeat (first | (with_reducible first | exact HB.out | apply below_alloc | apply pw_below_drewN | apply below_drew1) | exact HB.out)⟩⟩
     ·
      rw [if_neg c6] at H
      exact absurd H (by simp)
    ·
     rw [if_neg c4] at H
     exact absurd H (by simp)
   ·
    rw [if_neg c3] at H
    have c3b0 : decide (x7_1 < (a0.size : Int)) = false := decide_eq_false c3
    clear c3
    by_cases c14 : 0 ≤ x6_1
    ·
     rw [if_pos c14] at H
     have c14b0 := eq_true c14
     have c14b1 : decide (0 ≤ x6_1) = true := decide_eq_true c14
     clear c14
     by_cases c15 : x6_1 ≤ (a0.size : Int)
     ·
      rw [if_pos c15] at H
      have c15b0 := eq_true c15
      have c15b1 : decide (x6_1 ≤ (a0.size : Int)) = true := decide_eq_true c15
      clear c15
      by_cases c16 : x5_1.length < 8796093022208
      ·
       rw [if_pos c16] at H
       have LMc16 := Aside0.mk c16
       clear c16
       obtain ⟨y109, hy109⟩ : ∃ y_ : List ByteArray, y_ = (x5_1 ++ [a0.extract (x6_1 : Int).toNat a0.size]) := ⟨_, rfl⟩
       replace H : (some y109) = some r := by first | (rw [hy109]; with_reducible exact H) | (have H2_ := (Option.bind_some _ _).symm.trans H; rw [hy109]; with_reducible exact H2_) | (have H2_ := (Option.bind_some _ _).symm.trans H; with_reducible exact H2_) | with_reducible exact H | (rw [hy109]; exact H) | exact H
       have Ny109 := Aside0.mk hy109
       clear hy109
       obtain rfl := Option.some.inj H
       go_wp2_with (first | ((with_reducible refine gate_builtin (b := .append) (xs := #[.tmp 29, .tmp 33]) rfl ?_); at_builtin; refine Kd.R_append Kd.string (w0 := w) w.heap.size rfl (.tmp 29) (.tmp 33) 35 9 (.string ⟨#[]⟩) 16 rfl Tryd.underlying35 info9 rfl (by decide) (by omega) u5 x5_1 (a0.extract (x6_1 : Int).toNat a0.size) [.string (a0.extract (x6_1 : Int).toNat a0.size)] (fun _ => True) (fun _ => False) rfl rfl ?aP (fun _ hk => hk.elim) ?aF ?aO ?aB ?aS ?aL ?_; (case aP => exact rfl); (case aB => exact (by repeat (first | (with_reducible first | exact HB.out | apply below_alloc | apply pw_below_drewN | apply below_drew1) | exact HB.out))); (case aF => exact (fun _ _ => trivial)); (case aO => exact (by (with_reducible repeat (first | apply Kd.R_alloc | apply Kd.R_drewN | apply Kd.R_drew)); exact HO_5.out)); (case aS => exact (below_size (by repeat (first | (with_reducible first | exact HB.out | apply below_alloc | apply pw_below_drewN | apply below_drew1) | exact HB.out)))); (case aL => have := LMc16.out; omega); intro v110 w17 ho hb hg hat; rw [← Ny109.out] at ho; have n0_ := Aside0.mk (hb); have n1_ := Aside0.mk (ho); clear HB; clear HO_5; have HB := n0_; have HO111 := n1_; clear n0_ n1_; clear ho hb hg hat))
       repeat (go_quiet (first | ((with_reducible refine gate_builtin (b := .append) (xs := #[.tmp 29, .tmp 33]) rfl ?_); at_builtin; refine Kd.R_append Kd.string (w0 := w) w.heap.size rfl (.tmp 29) (.tmp 33) 35 9 (.string ⟨#[]⟩) 16 rfl Tryd.underlying35 info9 rfl (by decide) (by omega) u5 x5_1 (a0.extract (x6_1 : Int).toNat a0.size) [.string (a0.extract (x6_1 : Int).toNat a0.size)] (fun _ => True) (fun _ => False) rfl rfl ?aP (fun _ hk => hk.elim) ?aF ?aO ?aB ?aS ?aL ?_; (case aP => exact rfl); (case aB => exact (by repeat (first | (with_reducible first | exact HB.out | apply below_alloc | apply pw_below_drewN | apply below_drew1) | exact HB.out))); (case aF => exact (fun _ _ => trivial)); (case aO => exact (by (with_reducible repeat (first | apply Kd.R_alloc | apply Kd.R_drewN | apply Kd.R_drew)); exact HO_5.out)); (case aS => exact (below_size (by repeat (first | (with_reducible first | exact HB.out | apply below_alloc | apply pw_below_drewN | apply below_drew1) | exact HB.out)))); (case aL => have := LMc16.out; omega); intro v110 w17 ho hb hg hat; rw [← Ny109.out] at ho; have n0_ := Aside0.mk (hb); have n1_ := Aside0.mk (ho); clear HB; clear HO_5; have HB := n0_; have HO111 := n1_; clear n0_ n1_; clear ho hb hg hat)); try go_wp2_with (first | ((with_reducible refine gate_builtin (b := .append) (xs := #[.tmp 29, .tmp 33]) rfl ?_); at_builtin; refine Kd.R_append Kd.string (w0 := w) w.heap.size rfl (.tmp 29) (.tmp 33) 35 9 (.string ⟨#[]⟩) 16 rfl Tryd.underlying35 info9 rfl (by decide) (by omega) u5 x5_1 (a0.extract (x6_1 : Int).toNat a0.size) [.string (a0.extract (x6_1 : Int).toNat a0.size)] (fun _ => True) (fun _ => False) rfl rfl ?aP (fun _ hk => hk.elim) ?aF ?aO ?aB ?aS ?aL ?_; (case aP => exact rfl); (case aB => exact (by repeat (first | (with_reducible first | exact HB.out | apply below_alloc | apply pw_below_drewN | apply below_drew1) | exact HB.out))); (case aF => exact (fun _ _ => trivial)); (case aO => exact (by (with_reducible repeat (first | apply Kd.R_alloc | apply Kd.R_drewN | apply Kd.R_drew)); exact HO_5.out)); (case aS => exact (below_size (by repeat (first | (with_reducible first | exact HB.out | apply below_alloc | apply pw_below_drewN | apply below_drew1) | exact HB.out)))); (case aL => have := LMc16.out; omega); intro v110 w17 ho hb hg hat; rw [← Ny109.out] at ho; have n0_ := Aside0.mk (hb); have n1_ := Aside0.mk (ho); clear HB; clear HO_5; have HB := n0_; have HO111 := n1_; clear n0_ n1_; clear ho hb hg hat)))
       go_ret
       exact ⟨_, by first | rfl | (simp [errW_none, errW_some] <;> rfl) | (simp [*, errW_none, errW_some] <;> rfl), by (with_reducible repeat (first | apply Kd.R_alloc | apply Kd.R_drewN | apply Kd.R_drew)); exact HO111.out, by repeat (first | (with_reducible first | exact HB.out | apply below_alloc | apply pw_below_drewN | apply below_drew1) | exact HB.out)⟩
      ·
       rw [if_neg c16] at H
       exact absurd H (by simp)
     ·
      rw [if_neg c15] at H
      exact absurd H (by simp)
    ·
     rw [if_neg c14] at H
     exact absurd H (by simp)

-- NOT PRINTED: function 62 (gsl_newNode_int)

-- NOT PRINTED: function 49 (gsl_GenericSublist_int_Insert)

-- NOT PRINTED: function 80 (gsl_GenericSublist_int_removeFromNode)

-- NOT PRINTED: function 72 (gsl_level_int_numNodes)

-- NOT PRINTED: function 81 (gsl_node_int_isEmpty)

-- NOT PRINTED: function 82 (gsl_level_int_pruneNode)

-- NOT PRINTED: function 63 (gsl_GenericSublist_int_remove)

-- NOT PRINTED: function 50 (gsl_GenericSublist_int_Remove)

-- NOT PRINTED: function 34 (impl_list)

-- NOT PRINTED: function 41 (gsl_GenericSublist_int_Count)

-- NOT PRINTED: function 24 (impl_ListKinds)

-- NOT PRINTED: function 8 (laws_awakeList)


end Go.Proofs.YtcnbnljlopopkaaDoor.LsQ

-- thin
