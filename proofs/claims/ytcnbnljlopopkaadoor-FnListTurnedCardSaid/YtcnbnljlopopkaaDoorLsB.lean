/- WALKS: a subscription is put into a list of interest. -/
import Derived.Test.YtcnbnljlopopkaaDoorProg
import Derived.Below
import Derived.Deep.Draws
import Derived.Deep.AppendLies
import Derived.Maps.AppendAt
import Derived.OwnWalk
import Derived.Laws.BytesArg
import Derived.Laws.MakeOwn
import Derived.Laws.OwnMore
import Derived.Deep.OwnRows
import Derived.Tactics
import Derived.Lib.ConvBytes
import Derived.Laws.Slices
import Derived.WalkKit
import Derived.KernelRfl
import Derived.RowKit3
import Derived.Deep.LoopGhost
import Derived.Deep.QuietTactic
import Derived.BigQuiet
import Derived.WideLaws
import Derived.Deep.DeepCutAuto
import Derived.Deep.CutBlock
import Derived.Deep.RegionHeld3
import Derived.Laws.Rows
import Derived.Lib.AppendStr
import Derived.ArgAppend
import Derived.Laws.IdiomCopy
import Derived.OrdersHeld
import Derived.Laws.BitsLemmas
import Derived.RowKit
import Derived.Test.YtcnbnljlopopkaaDoorWWords
import Derived.Test.YtcnbnljlopopkaaDoorWLast
import Derived.Test.YtcnbnljlopopkaaDoorWTab
import Derived.Test.YtcnbnljlopopkaaDoorWFour
import Derived.Test.YtcnbnljlopopkaaDoorWQPut
import Derived.Test.YtcnbnljlopopkaaDoorWApart
import Derived.Test.YtcnbnljlopopkaaDoorWArr
import Derived.Test.YtcnbnljlopopkaaDoorWZeros
import Derived.Test.YtcnbnljlopopkaaDoorWFoot
import Derived.Test.YtcnbnljlopopkaaDoorWKept
import Derived.Test.YtcnbnljlopopkaaDoorWShare
import Derived.Test.YtcnbnljlopopkaaDoorWN
import Derived.Test.YtcnbnljlopopkaaDoorWFootNe
import Derived.Test.YtcnbnljlopopkaaDoorWAt
import Derived.Test.YtcnbnljlopopkaaDoorWEqStruct
import Derived.Test.YtcnbnljlopopkaaDoorWRepsOne
import Derived.Test.YtcnbnljlopopkaaDoorWInv
import Derived.Test.YtcnbnljlopopkaaDoorWInvWords
import Derived.Test.YtcnbnljlopopkaaDoorWGuard
import Derived.Test.YtcnbnljlopopkaaDoorWNEv
import Derived.Test.YtcnbnljlopopkaaDoorWMore
import Derived.Test.YtcnbnljlopopkaaDoorLsA
namespace Go.Proofs.YtcnbnljlopopkaaDoor.LsB
open Go.RowKit Go.Proofs.YtcnbnljlopopkaaDoorW.PrintWords Go.Proofs.YtcnbnljlopopkaaDoorW.PrintLast Go.Proofs.YtcnbnljlopopkaaDoorW.PrintMore
attribute [local go_sem] max2_int min2_int max_two min_two max_three min_three max_four min_four   -- for this text's walks alone
set_option linter.unusedVariables false
set_option linter.unusedSimpArgs false



open Go.Maps
open _root_.Go.Proofs.YtcnbnljlopopkaaDoor.LsA
theorem kind_of {t : ByteArray} (h : t.size ≠ 0) : t = star ∨ t = gts ∨ (t ≠ star ∧ t ≠ gts ∧ ∃ c : UInt8, t = { data := #[c] }) ∨ (1 < t.size ∧ t ≠ star ∧ t ≠ gts) := by
 by_cases h1 : t = star
 ·
  exact .inl h1
 ·
  by_cases h2 : t = gts
  ·
   exact .inr (.inl h2)
  ·
   by_cases h3 : 1 < t.size
   ·
    exact .inr (.inr (.inr ⟨h3, h1, h2⟩))
   ·
    have h4 : t.size = 1 := by omega
    refine .inr (.inr (.inl ⟨h1, h2, ?_⟩))
    obtain ⟨⟨l⟩⟩ := t
    have h5 : l.length = 1 := h4
    match l, h5 with
    | [c], _ => exact ⟨c, rfl⟩
/-! ### Insert, walked -/
set_option maxHeartbeats 40000000 in
set_option maxRecDepth 100000 in
theorem insert_calls (tk : ByteArray → Path) (N B hb : Nat) (E : List Ent) (s : ByteArray) (v : Int) (w : World) (h : ListAt tk N w B hb E) (hBw : B ≤ w.heap.size) (hBh : B ≤ hb) (hs : okS s) (hv : okI v) (hT : TkOk (tk s)) (hsp : ∃ k, LsQ.gsl_zzSplit.f k s { data := #[46] } = some (tk s))
  (hinj : ∀ s', tk s' = tk s → s' = s) (hnew : (s, v) ∉ E) (hN : N < 1000000000000) (hE : E.length < 1000000) :
  Calls Tryd.prog 49 #[.pointer (some ⟨hb, 0, none⟩), .string s, .int .i64 v] w fun e w' => e = .returned Value.nilIface ∧ ListAt tk (N + (tk s).length + 1) w' B hb ((s, v) :: E) ∧ ChL B w w' := by
 obtain ⟨root, T, hH, hM, hL⟩ := h
 obtain ⟨kq, hk⟩ := hsp
 obtain ⟨tks, htk⟩ : ∃ x, x = tk s := ⟨_, rfl⟩
 rw [← htk] at hT hk hinj
 rw [← htk]
 have hTl := hT.len
 have hTn : 0 < tks.length := by cases hq : tks with | nil => exact absurd hq hT.ne | cons a b => simp
 have HLK := Aside0.mk (lock_calls w hb root (E.length : Int) hH)
 have HSP := Aside0.mk (fun w1 => LsQ.gsl_zzSplit.calls kq s _ tks w1 hk)
 have HA := Aside0.mk (And.intro hH (And.intro hM (And.intro hL (And.intro hBw (And.intro hBh (And.intro hs (And.intro hv (And.intro hT (And.intro hinj (And.intro hnew (And.intro htk (And.intro hN (And.intro hE (And.intro hTl hTn))))))))))))))
 clear hH hM hL hBw hBh hs hv hT hk hinj hnew htk hN hE hTl hTn
 go_enter Tryd.func49, Tryd.ntmps49
 go_wp2_with fail
 refine HLK.out.mono ?_
 rintro en w1 ⟨rfl, h1, g1⟩
 have c6 := h1.cell 6 _ rfl
 have H1 := Aside0.mk (And.intro h1 g1)
 clear h1 g1 HLK
 go_wp2_with fail
 refine (HSP.out w1).mono ?_
 rintro en w2 ⟨v2, rfl, hR, hb2⟩
 obtain ⟨A2, c2, e2⟩ := Kd.R_slice hR
 subst e2
 have hI0 : InsI tk N B hb root (E.length : Int) E w tks w1.heap.size (.slice A2 tks.length c2) 0 T w2 := by
  obtain ⟨hH, hM, hL, hBw, hBh, -⟩ := HA.out
  have hch1 : ChL B w w1 := ChL.set hBh hH rfl H1.out.2
  refine ⟨(hM.keepH hH H1.out.2).below hb2, (hb2.block _ (lt_some H1.out.1)).trans H1.out.1, hch1.trans (ChL.of_below hb2), hR, ?_, fun f => absurd f (Nat.lt_irrefl 0), hL.full, fun p hp => .inl (hL.live p hp), hL.nil, hL.rt⟩
  obtain ⟨m, hm⟩ := hL.rt
  rw [List.take_zero, hm]
  simp
 have HI0 := Aside0.mk hI0
 clear hI0 hR hb2 HSP H1 c6
 go_wp2_with fail
 go_loopw [7, 8, 9, 24] (fun v7 v8 v9 v24 wr => ∃ (i : Nat) (T' : Trie) (b7 : Bool) (x8 : Option Addr) (r : Rc), v24 = .int .i64 (i : Int) ∧ v7 = .bool b7 ∧ v8 = .pointer x8 ∧ v9 = .pointer (some ⟨r.b, 0, none⟩) ∧ Aside0 (InsI tk N B hb root (E.length : Int) E w tks w1.heap.size (.slice A2 tks.length c2) i T' wr ∧ i ≤ tks.length ∧ (b7 = true → i = tks.length) ∧ (0 < i → x8 = adR (T'.nd (tks.take i))) ∧ T'.lv (tks.take i) = some r)) (fun _ _ _ v24 _ => Road.leftOf tks.length v24)
 case atStart =>
  obtain ⟨m, hm⟩ := HA.out.2.2.1.rt
  exact ⟨0, T, false, none, ⟨root, m⟩, rfl, rfl, rfl, rfl, ⟨HI0.out, Nat.zero_le _, (fun f => absurd f (by simp)), (fun f => absurd f (Nat.lt_irrefl 0)), hm⟩⟩
 case round =>
  obtain ⟨i, T', b7, x8, r, rfl, rfl, rfl, rfl, HI⟩ := hrel
  clear HI0
  rcases Nat.lt_or_ge i tks.length with hi | hi
  ·
   obtain ⟨hI, hile, hb7, -, hr⟩ := HI.out
   obtain ⟨-, -, -, hBw, hBh, hs, hv, hT, -⟩ := HA.out
   have hTl := HA.out.2.2.2.2.2.2.2.2.2.2.2.2.2.1
   have b7f : b7 = false := by cases b7 with | false => rfl | true => have := hb7 rfl; omega
   subst b7f
   have HWK := Aside0.mk (Road.wrap_nat i (by omega))
   have m1 := eq_true (show (i : Int) < (tks.length : Int) by omega)
   have m2 := eq_true hi
   obtain ⟨hti0, htok⟩ := hT.tok i hi
   have hlast := hT.last i hi
   obtain ⟨ad, ead, hcs⟩ := CS_at (Kd.R_reads' hI.row).2.2 i hi
   subst ead
   obtain ⟨t, ht⟩ : ∃ x, x = tks.getD i ByteArray.empty := ⟨_, rfl⟩
   rw [← ht] at hti0 htok hlast hcs
   obtain ⟨p, hp⟩ : ∃ x, x = tks.take i := ⟨_, rfl⟩
   rw [← hp] at hr
   obtain ⟨k1, k2, k3, k4⟩ := hI.mem.lvl p r hr
   have z0 := not_frozen k3 1
   have z0' := not_frozen k3 2
   have c0 : wr.cell? ⟨r.b, 0, none⟩ = some (.map (some r.m)) := (cell_of_row wr r.b 0 _ _ _ k3).trans rfl
   have c1 : wr.cell? ⟨r.b, 1, none⟩ = some (ptR (T'.nd (p ++ [star]))) := (cell_of_row wr r.b 1 _ _ _ k3).trans rfl
   have c2' : wr.cell? ⟨r.b, 2, none⟩ = some (ptR (T'.nd (p ++ [gts]))) := (cell_of_row wr r.b 2 _ _ _ k3).trans rfl
   have HBw : B ≤ wr.heap.size := Nat.le_trans hBw hI.ch.size
   have hlvB := hI.mem.lvlt hr
   have HP := Aside0.mk (And.intro hI (And.intro hi (And.intro hp (And.intro ht (And.intro hr (And.intro htok (And.intro hlast (And.intro k3 (And.intro k4 (And.intro HBw (And.intro hti0 hlvB)))))))))))
   have htz : t.size ≠ 0 := hti0
   clear hI hile hb7 hBw hBh hs hv hT hTl hti0 htok hlast hi hp HI hr k1 k2 k3 k4 HBw hlvB
   have hcase : t = star ∨ t = gts ∨ (t ≠ star ∧ t ≠ gts ∧ ∃ c : UInt8, t = { data := #[c] }) ∨ (1 < t.size ∧ t ≠ star ∧ t ≠ gts) := kind_of htz
   have HHT := Aside0.mk ht
   clear ht htz
   rcases hcase with ek | ek | ⟨n1, n2, c, ek⟩ | ⟨n0, n1, n2⟩
   ·
    -- kind 1
    subst ek
    cases hnd : T'.nd (p ++ [star]) with
    | some q =>
     rw [show T'.nd (p ++ [star]) = some q from hnd] at c1
     change _ = some (Value.pointer (some ⟨q.b, 0, none⟩)) at c1
     obtain ⟨hI, hi, hp, ht, hr, -, hlast, -⟩ := HP.out
     cases hl : T'.lv (p ++ [star]) with
     | none => exact absurd hl (hI.full _ (some_ne hnd))
     | some lq =>
     have hc := (cell_of_row wr q.b 0 _ _ _ (hI.mem.nod _ q hnd).2.2.1).trans rfl
     have hc' : wr.cell? ⟨q.b, 0, none⟩ = some (.pointer (some ⟨lq.b, 0, none⟩)) := by rw [hc, hl]; rfl
     have HN2 := Aside0.mk (And.intro hnd hl)
     clear hI hi hp ht hr hlast hc hnd hl
     go_wp2_with fail
     go_roundw
     case rel =>
      obtain ⟨hI, hi, hp, ht, hr, -, hlast, -⟩ := HP.out
      obtain ⟨hnd, hl⟩ := HN2.out
      have ets : tks.take (i + 1) = p ++ [star] := by rw [take_snoc hi, ← hp, ← HHT.out]
      refine ⟨i + 1, T', _, some ⟨q.b, 0, none⟩, lq, congrArg (Value.int .i64) HWK.out, rfl, rfl, rfl, ⟨hI.same hi (q := q) (by rw [← hp, ← HHT.out]; exact hnd), hi, ?_, fun _ => by rw [ets, hnd]; rfl, by rw [ets]; exact hl⟩⟩
      exact fun f => absurd f (by simp)
     case measure => rw [HWK.out]; exact Road.leftOf_lt (of_eq_true m2)
    | none =>
     rw [show T'.nd (p ++ [star]) = none from hnd] at c1
     change _ = some (Value.pointer none) at c1
     have HNN := Aside0.mk (newNode_calls wr)
     have HND := Aside0.mk hnd
     clear hnd
     go_wp2_with fail
     refine HNN.out.mono ?_
     rintro en w3 ⟨x, rfl, x1, x2, x3, x4, xb⟩
     have d0 : w3.cell? ⟨r.b, 0, none⟩ = some (.map (some r.m)) := (cell_same (xb.block _ HP.out.2.2.2.2.2.2.2.2.2.2.2.1) 0).trans c0
     have d1 := (cell_same (xb.block _ HP.out.2.2.2.2.2.2.2.2.2.2.2.1) 1).trans c1
     have d2 := (cell_same (xb.block _ HP.out.2.2.2.2.2.2.2.2.2.2.2.1) 2).trans c2'
     have fz1 : w3.frozen? ⟨r.b, 1, none⟩ = false := (World.frozen?_of_block (xb.block _ HP.out.2.2.2.2.2.2.2.2.2.2.2.1)).trans z0
     have fz2 : w3.frozen? ⟨r.b, 2, none⟩ = false := (World.frozen?_of_block (xb.block _ HP.out.2.2.2.2.2.2.2.2.2.2.2.1)).trans z0'
     have fz3 : w3.frozen? ⟨x.b, 0, none⟩ = false := not_frozen x3 0
     have hrow3 := (xb.block _ HP.out.2.2.2.2.2.2.2.2.2.2.2.1).trans HP.out.2.2.2.2.2.2.2.1
     have hgF := grown_setCell w3 r.b 1 (.pointer (some ⟨x.b, 0, none⟩))
     have hrow4 := Road.setCell_same_heap 1 (.pointer (some ⟨x.b, 0, none⟩)) hrow3
     obtain ⟨w4, hw4⟩ : ∃ z, z = w3.setCell ⟨r.b, 1, none⟩ (.pointer (some ⟨x.b, 0, none⟩)) := ⟨_, rfl⟩
     rw [← hw4] at hgF hrow4
     have hM4 := (HP.out.1.mem.linkF HP.out.2.2.2.2.2.2.2.2.2.1 HP.out.2.2.2.2.1 HND.out x1 x2 x3 x4 xb (.inl rfl) hgF (by
      rw [hrow4]
      rw [upR_same, upR_other _ _ (fun e => gts_ne_star (snoc_inj.1 e))]
      rfl)).mono (Nat.le_succ _)
     have hF := HP.out.1.chF (by rw [← HP.out.2.2.1]; exact HP.out.2.2.2.2.1) xb hgF
     have ez : w4.frozen? ⟨x.b, 0, none⟩ = false := (World.frozen?_of_block (hgF.block _ (lt_some x3) (by intro f; injection f with f; have f' : x.b = r.b := f; have := HP.out.2.2.2.2.2.2.2.2.2.2.2.1; omega))).trans fz3
     have e0 : w4.cell? ⟨x.b, 0, none⟩ = some (.pointer none) := (cell_same (hgF.block _ (lt_some x3) (by intro f; injection f with f; have f' : x.b = r.b := f; have := HP.out.2.2.2.2.2.2.2.2.2.2.2.1; omega)) 0).trans ((cell_of_row w3 x.b 0 _ _ _ x3).trans rfl)
     have H4 := Aside0.mk (And.intro hM4 hF)
     rw [hw4] at e0 ez
     have HW4 := Aside0.mk hw4
     clear hgF hrow4 hM4 hF hrow3 x3 x4 xb x1 x2 HNN
     go_wp2_with fail
     refine (newLevel_calls _).mono ?_
     rintro en w5 ⟨y, rfl, y1, y2, y3, y4, yb⟩
     rw [← HW4.out] at y1 y2 yb e0 ez
     have f2 : w5.frozen? ⟨x.b, 0, none⟩ = false := (World.frozen?_of_block (yb.block _ (cell_lt e0))).trans ez
     have f0 : w5.cell? ⟨x.b, 0, none⟩ = some (.pointer none) := (cell_same (yb.block _ (cell_lt e0)) 0).trans e0
     have f1 := World.cell?_setCell_same w5 ⟨x.b, 0, none⟩ (.pointer (some ⟨y.b, 0, none⟩)) f0
     have H5 := Aside0.mk (And.intro y1 (And.intro y2 (And.intro y3 (And.intro y4 yb))))
     clear y1 y2 y3 y4 yb
     go_wp2_with fail
     go_roundw
     case rel =>
      obtain ⟨hI, hi, hp, ht, hr, -, hlast, -⟩ := HP.out
      have ets : tks.take (i + 1) = p ++ [star] := by rw [take_snoc hi, ← hp, ← HHT.out]
      obtain ⟨y1, y2, y3, y4, yb⟩ := H5.out
      have hM4 := H4.out.1
      have h00 := HND.out
      rw [hp] at hM4 h00
      have hgr := hI.grow hi HP.out.2.2.2.2.2.2.2.2.2.1 HHT.out hM4 H4.out.2.1 H4.out.2.2 h00 y1 y2 y3 y4 yb
      refine ⟨i + 1, _, _, some ⟨x.b, 0, none⟩, y, congrArg (Value.int .i64) HWK.out, rfl, rfl, rfl, ⟨hgr, hi, ?_, fun _ => ?_, ?_⟩⟩
      ·
       exact fun f => absurd f (by simp)
      ·
       rw [ets, hp]; exact (congrArg adR (upR_same T'.nd (tks.take i ++ [star]) (some x))).symm
      ·
       rw [ets, hp]; exact upR_same _ _ _
     case measure => rw [HWK.out]; exact Road.leftOf_lt (of_eq_true m2)
   ·
    -- kind 2
    subst ek
    cases hnd : T'.nd (p ++ [gts]) with
    | some q =>
     rw [show T'.nd (p ++ [gts]) = some q from hnd] at c2'
     change _ = some (Value.pointer (some ⟨q.b, 0, none⟩)) at c2'
     obtain ⟨hI, hi, hp, ht, hr, -, hlast, -⟩ := HP.out
     cases hl : T'.lv (p ++ [gts]) with
     | none => exact absurd hl (hI.full _ (some_ne hnd))
     | some lq =>
     have hc := (cell_of_row wr q.b 0 _ _ _ (hI.mem.nod _ q hnd).2.2.1).trans rfl
     have hc' : wr.cell? ⟨q.b, 0, none⟩ = some (.pointer (some ⟨lq.b, 0, none⟩)) := by rw [hc, hl]; rfl
     have HN2 := Aside0.mk (And.intro hnd hl)
     clear hI hi hp ht hr hlast hc hnd hl
     go_wp2_with fail
     go_roundw
     case rel =>
      obtain ⟨hI, hi, hp, ht, hr, -, hlast, -⟩ := HP.out
      obtain ⟨hnd, hl⟩ := HN2.out
      have ets : tks.take (i + 1) = p ++ [gts] := by rw [take_snoc hi, ← hp, ← HHT.out]
      refine ⟨i + 1, T', _, some ⟨q.b, 0, none⟩, lq, congrArg (Value.int .i64) HWK.out, rfl, rfl, rfl, ⟨hI.same hi (q := q) (by rw [← hp, ← HHT.out]; exact hnd), hi, ?_, fun _ => by rw [ets, hnd]; rfl, by rw [ets]; exact hl⟩⟩
      exact fun _ => (by first | exact HP.out.2.2.2.2.2.2.1 rfl | exact HP.out.2.2.2.2.2.2.1 trivial)
     case measure => rw [HWK.out]; exact Road.leftOf_lt (of_eq_true m2)
    | none =>
     rw [show T'.nd (p ++ [gts]) = none from hnd] at c2'
     change _ = some (Value.pointer none) at c2'
     have HNN := Aside0.mk (newNode_calls wr)
     have HND := Aside0.mk hnd
     clear hnd
     go_wp2_with fail
     refine HNN.out.mono ?_
     rintro en w3 ⟨x, rfl, x1, x2, x3, x4, xb⟩
     have d0 : w3.cell? ⟨r.b, 0, none⟩ = some (.map (some r.m)) := (cell_same (xb.block _ HP.out.2.2.2.2.2.2.2.2.2.2.2.1) 0).trans c0
     have d1 := (cell_same (xb.block _ HP.out.2.2.2.2.2.2.2.2.2.2.2.1) 1).trans c1
     have d2 := (cell_same (xb.block _ HP.out.2.2.2.2.2.2.2.2.2.2.2.1) 2).trans c2'
     have fz1 : w3.frozen? ⟨r.b, 1, none⟩ = false := (World.frozen?_of_block (xb.block _ HP.out.2.2.2.2.2.2.2.2.2.2.2.1)).trans z0
     have fz2 : w3.frozen? ⟨r.b, 2, none⟩ = false := (World.frozen?_of_block (xb.block _ HP.out.2.2.2.2.2.2.2.2.2.2.2.1)).trans z0'
     have fz3 : w3.frozen? ⟨x.b, 0, none⟩ = false := not_frozen x3 0
     have hrow3 := (xb.block _ HP.out.2.2.2.2.2.2.2.2.2.2.2.1).trans HP.out.2.2.2.2.2.2.2.1
     have hgF := grown_setCell w3 r.b 2 (.pointer (some ⟨x.b, 0, none⟩))
     have hrow4 := Road.setCell_same_heap 2 (.pointer (some ⟨x.b, 0, none⟩)) hrow3
     obtain ⟨w4, hw4⟩ : ∃ z, z = w3.setCell ⟨r.b, 2, none⟩ (.pointer (some ⟨x.b, 0, none⟩)) := ⟨_, rfl⟩
     rw [← hw4] at hgF hrow4
     have hM4 := (HP.out.1.mem.linkF HP.out.2.2.2.2.2.2.2.2.2.1 HP.out.2.2.2.2.1 HND.out x1 x2 x3 x4 xb (.inr rfl) hgF (by
      rw [hrow4]
      rw [upR_same, upR_other _ _ (fun e => gts_ne_star (snoc_inj.1 e).symm)]
      rfl)).mono (Nat.le_succ _)
     have hF := HP.out.1.chF (by rw [← HP.out.2.2.1]; exact HP.out.2.2.2.2.1) xb hgF
     have ez : w4.frozen? ⟨x.b, 0, none⟩ = false := (World.frozen?_of_block (hgF.block _ (lt_some x3) (by intro f; injection f with f; have f' : x.b = r.b := f; have := HP.out.2.2.2.2.2.2.2.2.2.2.2.1; omega))).trans fz3
     have e0 : w4.cell? ⟨x.b, 0, none⟩ = some (.pointer none) := (cell_same (hgF.block _ (lt_some x3) (by intro f; injection f with f; have f' : x.b = r.b := f; have := HP.out.2.2.2.2.2.2.2.2.2.2.2.1; omega)) 0).trans ((cell_of_row w3 x.b 0 _ _ _ x3).trans rfl)
     have H4 := Aside0.mk (And.intro hM4 hF)
     rw [hw4] at e0 ez
     have HW4 := Aside0.mk hw4
     clear hgF hrow4 hM4 hF hrow3 x3 x4 xb x1 x2 HNN
     go_wp2_with fail
     refine (newLevel_calls _).mono ?_
     rintro en w5 ⟨y, rfl, y1, y2, y3, y4, yb⟩
     rw [← HW4.out] at y1 y2 yb e0 ez
     have f2 : w5.frozen? ⟨x.b, 0, none⟩ = false := (World.frozen?_of_block (yb.block _ (cell_lt e0))).trans ez
     have f0 : w5.cell? ⟨x.b, 0, none⟩ = some (.pointer none) := (cell_same (yb.block _ (cell_lt e0)) 0).trans e0
     have f1 := World.cell?_setCell_same w5 ⟨x.b, 0, none⟩ (.pointer (some ⟨y.b, 0, none⟩)) f0
     have H5 := Aside0.mk (And.intro y1 (And.intro y2 (And.intro y3 (And.intro y4 yb))))
     clear y1 y2 y3 y4 yb
     go_wp2_with fail
     go_roundw
     case rel =>
      obtain ⟨hI, hi, hp, ht, hr, -, hlast, -⟩ := HP.out
      have ets : tks.take (i + 1) = p ++ [gts] := by rw [take_snoc hi, ← hp, ← HHT.out]
      obtain ⟨y1, y2, y3, y4, yb⟩ := H5.out
      have hM4 := H4.out.1
      have h00 := HND.out
      rw [hp] at hM4 h00
      have hgr := hI.grow hi HP.out.2.2.2.2.2.2.2.2.2.1 HHT.out hM4 H4.out.2.1 H4.out.2.2 h00 y1 y2 y3 y4 yb
      refine ⟨i + 1, _, _, some ⟨x.b, 0, none⟩, y, congrArg (Value.int .i64) HWK.out, rfl, rfl, rfl, ⟨hgr, hi, ?_, fun _ => ?_, ?_⟩⟩
      ·
       exact fun _ => (by first | exact HP.out.2.2.2.2.2.2.1 rfl | exact HP.out.2.2.2.2.2.2.1 trivial)
      ·
       rw [ets, hp]; exact (congrArg adR (upR_same T'.nd (tks.take i ++ [gts]) (some x))).symm
      ·
       rw [ets, hp]; exact upR_same _ _ _
     case measure => rw [HWK.out]; exact Road.leftOf_lt (of_eq_true m2)
   ·
    -- kind 3
    have HN := Aside0.mk (And.intro n1 n2)
    have z1 : ¬ c.toNat = 42 := fun f => n1 (by rw [ek]; exact congrArg (fun z => ByteArray.mk #[z]) (UInt8.toNat_inj.1 f))
    have z2 : ¬ c.toNat = 62 := fun f => n2 (by rw [ek]; exact congrArg (fun z => ByteArray.mk #[z]) (UInt8.toNat_inj.1 f))
    have y1 : ((c.toNat : Int) == 42) = false := beq_eq_false_iff_ne.2 (fun f => z1 (by omega))
    have y2 : ((c.toNat : Int) == 62) = false := beq_eq_false_iff_ne.2 (fun f => z2 (by omega))
    have y7 : ∀ hh, ((((({ data := #[c] } : ByteArray)[0]'hh).toNat : Nat) : Int) == 42) = false := fun _ => y1
    have y8 : ∀ hh, ((((({ data := #[c] } : ByteArray)[0]'hh).toNat : Nat) : Int) == 62) = false := fun _ => y2
    have y3 : ((c.toNat : Int) = 42) = False := eq_false (fun f => z1 (by omega))
    have y4 : ((c.toNat : Int) = 62) = False := eq_false (fun f => z2 (by omega))
    have y5 := eq_false z1
    have y6 := eq_false z2
    clear z1 z2
    clear n1 n2
    subst ek
    have hlook := NAt.look HP.out.2.2.2.2.2.2.2.2.1 HP.out.2.2.2.2.2.1 (T'.nd (p ++ [({ data := #[c] } : ByteArray)])) (fun d => ⟨fun f => f.2.2, fun f => ⟨HN.out.1, HN.out.2, f⟩⟩)
    cases hnd : T'.nd (p ++ [({ data := #[c] } : ByteArray)]) with
    | some q =>
     rw [hnd] at hlook
     change _ = Result.ok (Value.pointer (some ⟨q.b, 0, none⟩)) wr at hlook
     obtain ⟨hI, hi, hp, ht, hr, -, hlast, -⟩ := HP.out
     cases hl : T'.lv (p ++ [({ data := #[c] } : ByteArray)]) with
     | none => exact absurd hl (hI.full _ (some_ne hnd))
     | some lq =>
     have hc := (cell_of_row wr q.b 0 _ _ _ (hI.mem.nod _ q hnd).2.2.1).trans rfl
     have hc' : wr.cell? ⟨q.b, 0, none⟩ = some (.pointer (some ⟨lq.b, 0, none⟩)) := by rw [hc, hl]; rfl
     have HN2 := Aside0.mk (And.intro hnd hl)
     clear hI hi hp ht hr hlast hc hnd hl
     go_wp2_with fail
     go_roundw
     case rel =>
      obtain ⟨hI, hi, hp, ht, hr, -, hlast, -⟩ := HP.out
      obtain ⟨hnd, hl⟩ := HN2.out
      have ets : tks.take (i + 1) = p ++ [({ data := #[c] } : ByteArray)] := by rw [take_snoc hi, ← hp, ← HHT.out]
      refine ⟨i + 1, T', _, some ⟨q.b, 0, none⟩, lq, congrArg (Value.int .i64) HWK.out, rfl, rfl, rfl, ⟨hI.same hi (q := q) (by rw [← hp, ← HHT.out]; exact hnd), hi, ?_, fun _ => by rw [ets, hnd]; rfl, by rw [ets]; exact hl⟩⟩
      exact fun f => absurd f (by simp)
     case measure => rw [HWK.out]; exact Road.leftOf_lt (of_eq_true m2)
    | none =>
     rw [hnd] at hlook
     change _ = Result.ok (Value.pointer none) wr at hlook
     have HNN := Aside0.mk (newNode_calls wr)
     have HND := Aside0.mk hnd
     clear hnd
     go_wp2_with fail
     refine HNN.out.mono ?_
     rintro en w3 ⟨x, rfl, x1, x2, x3, x4, xb⟩
     have d0 : w3.cell? ⟨r.b, 0, none⟩ = some (.map (some r.m)) := (cell_same (xb.block _ HP.out.2.2.2.2.2.2.2.2.2.2.2.1) 0).trans c0
     have d1 := (cell_same (xb.block _ HP.out.2.2.2.2.2.2.2.2.2.2.2.1) 1).trans c1
     have d2 := (cell_same (xb.block _ HP.out.2.2.2.2.2.2.2.2.2.2.2.1) 2).trans c2'
     have fz1 : w3.frozen? ⟨r.b, 1, none⟩ = false := (World.frozen?_of_block (xb.block _ HP.out.2.2.2.2.2.2.2.2.2.2.2.1)).trans z0
     have fz2 : w3.frozen? ⟨r.b, 2, none⟩ = false := (World.frozen?_of_block (xb.block _ HP.out.2.2.2.2.2.2.2.2.2.2.2.1)).trans z0'
     have fz3 : w3.frozen? ⟨x.b, 0, none⟩ = false := not_frozen x3 0
     have hrow3 := (xb.block _ HP.out.2.2.2.2.2.2.2.2.2.2.2.1).trans HP.out.2.2.2.2.2.2.2.1
     obtain ⟨D, hD, hDL⟩ := HP.out.2.2.2.2.2.2.2.2.1
     have hD3 := own_keep hD (xb.block _ HP.out.2.2.2.2.2.2.2.2.2.2.2.2)
     have hkey := WideMaps.keyOf_string_mk (P := Tryd.prog) Tryd.underlying9 HP.out.2.2.2.2.2.1
     have HDD := Aside0.mk (And.intro hD3 (And.intro hDL (And.intro x1 (And.intro x2 (And.intro x3 (And.intro x4 xb))))))
     clear hD hD3 hDL hrow3 x1 x2 x3 x4 xb HNN
     go_upto_region 31 with (first | (at_mapUpdate; refine wpList_mapUpdate_own _ rfl _ _ _ 97 rfl 9 95 lawS Tryd.underlying97 RN r.m (N + i) D rfl HDD.out.1 (by have := HA.out.2.2.2.2.2.2.2.2.2.2.2.1; have := HA.out.2.2.2.2.2.2.2.2.2.2.2.2.2.1; have := HP.out.2.1; have hmx : maxLen = 9223372036854775807 := rfl; omega) _ _ (kS ({ data := #[c] } : ByteArray)) rfl rfl hkey (nl x.b) [] (RN_some x.b) ?_; intro w4 hown4 hgF; have H4o := Aside0.mk (And.intro hown4 hgF); clear hown4 hgF) | fail)
     have hM4 : MemT tk (N + i + 1) w4 B ⟨upR T'.nd (p ++ [({ data := #[c] } : ByteArray)]) (some x), T'.lv⟩ E := by
      obtain ⟨hD3, hDL, x1, x2, x3, x4, xb⟩ := HDD.out
      obtain ⟨hown4, hgF⟩ := H4o.out
      exact HP.out.1.mem.linkM HP.out.2.2.2.2.2.2.2.2.2.1 HP.out.2.2.2.2.1 HND.out x1 x2 x3 x4 xb HN.out.1 HN.out.2 hgF ⟨_, hown4, hDL.put hD3.isMap (fun _ _ => kS_ne) (fun _ => trivial) HP.out.2.2.2.2.2.1⟩
     have hF := HP.out.1.chM (by rw [← HP.out.2.2.1]; exact HP.out.2.2.2.2.1) HDD.out.2.2.2.2.2.2 H4o.out.2
     have ez : w4.frozen? ⟨x.b, 0, none⟩ = false := (World.frozen?_of_block (H4o.out.2.block _ (lt_some HDD.out.2.2.2.2.1) (by intro f; injection f with f; have f' : x.b = r.m := f; have := HP.out.2.2.2.2.2.2.2.2.2.2.2.2; have := HDD.out.2.2.1; omega))).trans fz3
     have e0 : w4.cell? ⟨x.b, 0, none⟩ = some (.pointer none) := (cell_same (H4o.out.2.block _ (lt_some HDD.out.2.2.2.2.1) (by intro f; injection f with f; have f' : x.b = r.m := f; have := HP.out.2.2.2.2.2.2.2.2.2.2.2.2; have := HDD.out.2.2.1; omega)) 0).trans ((cell_of_row w3 x.b 0 _ _ _ HDD.out.2.2.2.2.1).trans rfl)
     have H4 := Aside0.mk (And.intro hM4 hF)
     have HW4 := Aside0.mk (Eq.refl w4)
     clear hM4 hF HDD H4o
     go_wp2_with fail
     refine (newLevel_calls _).mono ?_
     rintro en w5 ⟨y, rfl, y1, y2, y3, y4, yb⟩
     skip
     have f2 : w5.frozen? ⟨x.b, 0, none⟩ = false := (World.frozen?_of_block (yb.block _ (cell_lt e0))).trans ez
     have f0 : w5.cell? ⟨x.b, 0, none⟩ = some (.pointer none) := (cell_same (yb.block _ (cell_lt e0)) 0).trans e0
     have f1 := World.cell?_setCell_same w5 ⟨x.b, 0, none⟩ (.pointer (some ⟨y.b, 0, none⟩)) f0
     have H5 := Aside0.mk (And.intro y1 (And.intro y2 (And.intro y3 (And.intro y4 yb))))
     clear y1 y2 y3 y4 yb
     go_wp2_with fail
     go_roundw
     case rel =>
      obtain ⟨hI, hi, hp, ht, hr, -, hlast, -⟩ := HP.out
      have ets : tks.take (i + 1) = p ++ [({ data := #[c] } : ByteArray)] := by rw [take_snoc hi, ← hp, ← HHT.out]
      obtain ⟨y1, y2, y3, y4, yb⟩ := H5.out
      have hM4 := H4.out.1
      have h00 := HND.out
      rw [hp] at hM4 h00
      have hgr := hI.grow hi HP.out.2.2.2.2.2.2.2.2.2.1 HHT.out hM4 H4.out.2.1 H4.out.2.2 h00 y1 y2 y3 y4 yb
      refine ⟨i + 1, _, _, some ⟨x.b, 0, none⟩, y, congrArg (Value.int .i64) HWK.out, rfl, rfl, rfl, ⟨hgr, hi, ?_, fun _ => ?_, ?_⟩⟩
      ·
       exact fun f => absurd f (by simp)
      ·
       rw [ets, hp]; exact (congrArg adR (upR_same T'.nd (tks.take i ++ [({ data := #[c] } : ByteArray)]) (some x))).symm
      ·
       rw [ets, hp]; exact upR_same _ _ _
     case measure => rw [HWK.out]; exact Road.leftOf_lt (of_eq_true m2)
   ·
    -- kind 4
    have HN := Aside0.mk (And.intro n1 n2)
    have y1 := eq_true (show (1 : Int) < (t.size : Int) by omega)
    have y2 := eq_true n0
    have y3 : decide ((1 : Int) < (t.size : Int)) = true := decide_eq_true (by omega)
    have y4 : ((t.size : Int) == 0) = false := beq_eq_false_iff_ne.2 (by omega)
    have y5 := eq_false (show ¬ (t.size : Int) = 0 by omega)
    have y6 := eq_false (show ¬ t.size = 0 by omega)
    clear n0 n1 n2
    have hlook := NAt.look HP.out.2.2.2.2.2.2.2.2.1 HP.out.2.2.2.2.2.1 (T'.nd (p ++ [t])) (fun d => ⟨fun f => f.2.2, fun f => ⟨HN.out.1, HN.out.2, f⟩⟩)
    cases hnd : T'.nd (p ++ [t]) with
    | some q =>
     rw [hnd] at hlook
     change _ = Result.ok (Value.pointer (some ⟨q.b, 0, none⟩)) wr at hlook
     obtain ⟨hI, hi, hp, ht, hr, -, hlast, -⟩ := HP.out
     cases hl : T'.lv (p ++ [t]) with
     | none => exact absurd hl (hI.full _ (some_ne hnd))
     | some lq =>
     have hc := (cell_of_row wr q.b 0 _ _ _ (hI.mem.nod _ q hnd).2.2.1).trans rfl
     have hc' : wr.cell? ⟨q.b, 0, none⟩ = some (.pointer (some ⟨lq.b, 0, none⟩)) := by rw [hc, hl]; rfl
     have HN2 := Aside0.mk (And.intro hnd hl)
     clear hI hi hp ht hr hlast hc hnd hl
     go_wp2_with fail
     go_roundw
     case rel =>
      obtain ⟨hI, hi, hp, ht, hr, -, hlast, -⟩ := HP.out
      obtain ⟨hnd, hl⟩ := HN2.out
      have ets : tks.take (i + 1) = p ++ [t] := by rw [take_snoc hi, ← hp, ← HHT.out]
      refine ⟨i + 1, T', _, some ⟨q.b, 0, none⟩, lq, congrArg (Value.int .i64) HWK.out, rfl, rfl, rfl, ⟨hI.same hi (q := q) (by rw [← hp, ← HHT.out]; exact hnd), hi, ?_, fun _ => by rw [ets, hnd]; rfl, by rw [ets]; exact hl⟩⟩
      exact fun f => absurd f (by simp)
     case measure => rw [HWK.out]; exact Road.leftOf_lt (of_eq_true m2)
    | none =>
     rw [hnd] at hlook
     change _ = Result.ok (Value.pointer none) wr at hlook
     have HNN := Aside0.mk (newNode_calls wr)
     have HND := Aside0.mk hnd
     clear hnd
     go_wp2_with fail
     refine HNN.out.mono ?_
     rintro en w3 ⟨x, rfl, x1, x2, x3, x4, xb⟩
     have d0 : w3.cell? ⟨r.b, 0, none⟩ = some (.map (some r.m)) := (cell_same (xb.block _ HP.out.2.2.2.2.2.2.2.2.2.2.2.1) 0).trans c0
     have d1 := (cell_same (xb.block _ HP.out.2.2.2.2.2.2.2.2.2.2.2.1) 1).trans c1
     have d2 := (cell_same (xb.block _ HP.out.2.2.2.2.2.2.2.2.2.2.2.1) 2).trans c2'
     have fz1 : w3.frozen? ⟨r.b, 1, none⟩ = false := (World.frozen?_of_block (xb.block _ HP.out.2.2.2.2.2.2.2.2.2.2.2.1)).trans z0
     have fz2 : w3.frozen? ⟨r.b, 2, none⟩ = false := (World.frozen?_of_block (xb.block _ HP.out.2.2.2.2.2.2.2.2.2.2.2.1)).trans z0'
     have fz3 : w3.frozen? ⟨x.b, 0, none⟩ = false := not_frozen x3 0
     have hrow3 := (xb.block _ HP.out.2.2.2.2.2.2.2.2.2.2.2.1).trans HP.out.2.2.2.2.2.2.2.1
     obtain ⟨D, hD, hDL⟩ := HP.out.2.2.2.2.2.2.2.2.1
     have hD3 := own_keep hD (xb.block _ HP.out.2.2.2.2.2.2.2.2.2.2.2.2)
     have hkey := WideMaps.keyOf_string_mk (P := Tryd.prog) Tryd.underlying9 HP.out.2.2.2.2.2.1
     have HDD := Aside0.mk (And.intro hD3 (And.intro hDL (And.intro x1 (And.intro x2 (And.intro x3 (And.intro x4 xb))))))
     clear hD hD3 hDL hrow3 x1 x2 x3 x4 xb HNN
     go_upto_region 31 with (first | (at_mapUpdate; refine wpList_mapUpdate_own _ rfl _ _ _ 97 rfl 9 95 lawS Tryd.underlying97 RN r.m (N + i) D rfl HDD.out.1 (by have := HA.out.2.2.2.2.2.2.2.2.2.2.2.1; have := HA.out.2.2.2.2.2.2.2.2.2.2.2.2.2.1; have := HP.out.2.1; have hmx : maxLen = 9223372036854775807 := rfl; omega) _ _ (kS t) rfl rfl hkey (nl x.b) [] (RN_some x.b) ?_; intro w4 hown4 hgF; have H4o := Aside0.mk (And.intro hown4 hgF); clear hown4 hgF) | fail)
     have hM4 : MemT tk (N + i + 1) w4 B ⟨upR T'.nd (p ++ [t]) (some x), T'.lv⟩ E := by
      obtain ⟨hD3, hDL, x1, x2, x3, x4, xb⟩ := HDD.out
      obtain ⟨hown4, hgF⟩ := H4o.out
      exact HP.out.1.mem.linkM HP.out.2.2.2.2.2.2.2.2.2.1 HP.out.2.2.2.2.1 HND.out x1 x2 x3 x4 xb HN.out.1 HN.out.2 hgF ⟨_, hown4, hDL.put hD3.isMap (fun _ _ => kS_ne) (fun _ => trivial) HP.out.2.2.2.2.2.1⟩
     have hF := HP.out.1.chM (by rw [← HP.out.2.2.1]; exact HP.out.2.2.2.2.1) HDD.out.2.2.2.2.2.2 H4o.out.2
     have ez : w4.frozen? ⟨x.b, 0, none⟩ = false := (World.frozen?_of_block (H4o.out.2.block _ (lt_some HDD.out.2.2.2.2.1) (by intro f; injection f with f; have f' : x.b = r.m := f; have := HP.out.2.2.2.2.2.2.2.2.2.2.2.2; have := HDD.out.2.2.1; omega))).trans fz3
     have e0 : w4.cell? ⟨x.b, 0, none⟩ = some (.pointer none) := (cell_same (H4o.out.2.block _ (lt_some HDD.out.2.2.2.2.1) (by intro f; injection f with f; have f' : x.b = r.m := f; have := HP.out.2.2.2.2.2.2.2.2.2.2.2.2; have := HDD.out.2.2.1; omega)) 0).trans ((cell_of_row w3 x.b 0 _ _ _ HDD.out.2.2.2.2.1).trans rfl)
     have H4 := Aside0.mk (And.intro hM4 hF)
     have HW4 := Aside0.mk (Eq.refl w4)
     clear hM4 hF HDD H4o
     go_wp2_with fail
     refine (newLevel_calls _).mono ?_
     rintro en w5 ⟨y, rfl, y1, y2, y3, y4, yb⟩
     skip
     have f2 : w5.frozen? ⟨x.b, 0, none⟩ = false := (World.frozen?_of_block (yb.block _ (cell_lt e0))).trans ez
     have f0 : w5.cell? ⟨x.b, 0, none⟩ = some (.pointer none) := (cell_same (yb.block _ (cell_lt e0)) 0).trans e0
     have f1 := World.cell?_setCell_same w5 ⟨x.b, 0, none⟩ (.pointer (some ⟨y.b, 0, none⟩)) f0
     have H5 := Aside0.mk (And.intro y1 (And.intro y2 (And.intro y3 (And.intro y4 yb))))
     clear y1 y2 y3 y4 yb
     go_wp2_with fail
     go_roundw
     case rel =>
      obtain ⟨hI, hi, hp, ht, hr, -, hlast, -⟩ := HP.out
      have ets : tks.take (i + 1) = p ++ [t] := by rw [take_snoc hi, ← hp, ← HHT.out]
      obtain ⟨y1, y2, y3, y4, yb⟩ := H5.out
      have hM4 := H4.out.1
      have h00 := HND.out
      rw [hp] at hM4 h00
      have hgr := hI.grow hi HP.out.2.2.2.2.2.2.2.2.2.1 HHT.out hM4 H4.out.2.1 H4.out.2.2 h00 y1 y2 y3 y4 yb
      refine ⟨i + 1, _, _, some ⟨x.b, 0, none⟩, y, congrArg (Value.int .i64) HWK.out, rfl, rfl, rfl, ⟨hgr, hi, ?_, fun _ => ?_, ?_⟩⟩
      ·
       exact fun f => absurd f (by simp)
      ·
       rw [ets, hp]; exact (congrArg adR (upR_same T'.nd (tks.take i ++ [t]) (some x))).symm
      ·
       rw [ets, hp]; exact upR_same _ _ _
     case measure => rw [HWK.out]; exact Road.leftOf_lt (of_eq_true m2)
  ·
   -- the end
   obtain ⟨hI, hile, -, hx8, hr⟩ := HI.out
   have hie : i = tks.length := by omega
   have m1 := eq_false (show ¬ (i : Int) < (tks.length : Int) by omega)
   have m2 := eq_false (show ¬ i < tks.length by omega)
   have hx := hx8 (by have := HA.out.2.2.2.2.2.2.2.2.2.2.2.2.2.2; omega)
   have htake : tks.take i = tks := by rw [hie, List.take_length]
   rw [htake] at hx
   cases hnd : T'.nd tks with
   | none => exact absurd hnd (by have := hI.node (by have := HA.out.2.2.2.2.2.2.2.2.2.2.2.2.2.2; omega); rw [htake] at this; exact this)
   | some q =>
   rw [hnd] at hx
   have hx' : x8 = some ⟨q.b, 0, none⟩ := hx
   subst hx'
   clear hx
   obtain ⟨k1, k2, k3, k4⟩ := hI.mem.nod tks q hnd
   have hc : wr.cell? ⟨q.b, 1, none⟩ = some (.map (some q.m)) := (cell_of_row wr q.b 1 _ _ _ k3).trans rfl
   obtain ⟨D, hD, hDL⟩ := k4
   have hkey := keyOf_int_mk (P := Tryd.prog) Tryd.underlying3 HA.out.2.2.2.2.2.2.1
   have hval := plainElem_string (H := Unit) (P := Tryd.prog) (e := 9) Tryd.underlying9 HA.out.2.2.2.2.2.1
   have hcn : wr.cell? ⟨hb, 7, none⟩ = some (.int .u32 (E.length : Int)) := hI.head.cell 7 _ rfl
   have HQ := Aside0.mk (And.intro hI (And.intro hnd (And.intro hD (And.intro hDL (And.intro k3 (And.intro k2 hie))))))
   clear hI hile hx8 hr hie hnd k1 k2 k3 hD hDL htake hi HI
   go_upto_region 36 with (first | (at_mapUpdate; refine wpList_mapUpdate_own _ rfl _ _ _ 101 rfl 3 9 lawI Tryd.underlying101 (plainElem Tryd.prog 9) q.m (N + i) D rfl HQ.out.2.2.1 (by have := HA.out.2.2.2.2.2.2.2.2.2.2.2.1; have := HA.out.2.2.2.2.2.2.2.2.2.2.2.2.2.1; have := HQ.out.2.2.2.2.2.2; have hmx : maxLen = 9223372036854775807 := rfl; omega) _ _ (kI v) rfl rfl hkey (sl s) [] hval ?_; intro w4 hown4 hgF; have H4o := Aside0.mk (And.intro hown4 hgF); clear hown4 hgF) | fail)
   obtain ⟨hI, hnd, hD, hDL, k3, k2, hie⟩ := HQ.out
   obtain ⟨hown4, hgF⟩ := H4o.out
   have htk := HA.out.2.2.2.2.2.2.2.2.2.2.1
   have hinj := HA.out.2.2.2.2.2.2.2.2.1
   have hM4 : MemT tk (N + i + 1) w4 B T' ((s, v) :: E) := hI.mem.subs hnd (Nat.le_succ _) (⟨_, hown4, (hDL.put hD.isMap (fun _ _ => kI_ne) (fun _ => trivial) HA.out.2.2.2.2.2.2.1).congr (fun v' d => by
    unfold subsAt
    constructor
    ·
     rintro (⟨h1, s', h2, h3, h4⟩ | ⟨rfl, rfl⟩)
     ·
      exact ⟨s', List.mem_cons_of_mem _ h2, h3, h4⟩
     ·
      exact ⟨s, List.mem_cons_self, htk.symm, rfl⟩
    ·
     rintro ⟨s', h2, h3, h4⟩
     have es : s' = s := hinj s' h3
     subst es
     rcases List.mem_cons.1 h2 with e | e
     ·
      injection e with _ e
      exact .inr ⟨e, h4⟩
     ·
      by_cases cv : v' = v
      ·
       exact .inr ⟨cv, h4⟩
      ·
       exact .inl ⟨cv, s', e, h3, h4⟩)⟩) (fun q' hq' v' d => by
    unfold subsAt
    constructor
    ·
     rintro ⟨s', h2, h3, h4⟩
     exact ⟨s', List.mem_cons_of_mem _ h2, h3, h4⟩
    ·
     rintro ⟨s', h2, h3, h4⟩
     rcases List.mem_cons.1 h2 with e | e
     ·
      injection e with e _
      subst e
      exact absurd (h3.symm.trans htk.symm) hq'
     ·
      exact ⟨s', e, h3, h4⟩) (fun s' v' hm => by
    rcases List.mem_cons.1 hm with e | e
    ·
     injection e with e _
     subst e
     exact .inr htk.symm
    ·
     exact .inl e) (fun k hk hne => hgF.block k hk (fun f => hne (by injection f)))
   have hh4 : HeadAt w4 hb 1 (-1073741824) root (E.length : Int) := (hgF.block _ (lt_some hI.head) (fun f => by
    obtain ⟨es, cc, k5⟩ := (hI.mem.nod tks q hnd).2.2.2.obj
    exact ne_obj hI.head k5 map_ne (by injection f))).trans hI.head
   have hch4 : ChL B w w4 := by
    obtain ⟨es, cc, k5⟩ := (hI.mem.nod tks q hnd).2.2.2.obj
    exact hI.ch.trans (ChL.set k2 k5 rfl hgF)
   have hcn : w4.cell? ⟨hb, 7, none⟩ = some (.int .u32 (E.length : Int)) := hh4.cell 7 _ rfl
   have hzn := not_frozen hh4 7
   have hE1 : IntKind.u32.wrap ((E.length : Int) + 1) = (((s, v) :: E).length : Int) := wrap32u _ _ (by rw [List.length_cons]; omega) (by omega) (by have := HA.out.2.2.2.2.2.2.2.2.2.2.2.2.1; rw [List.length_cons]; omega)
   have hh5 : HeadAt (w4.setCell ⟨hb, 7, none⟩ (.int .u32 (((s, v) :: E).length : Int))) hb 1 (-1073741824) root (((s, v) :: E).length : Int) := Road.setCell_same_heap 7 _ hh4
   have hg5 := grown_setCell w4 hb 7 (.int .u32 (((s, v) :: E).length : Int))
   have HUL := Aside0.mk (unlock_calls _ hb root _ hh5)
   have H5 := Aside0.mk (And.intro (hM4.keepH hh4 hg5) (And.intro (hch4.trans (ChL.set HA.out.2.2.2.2.1 hh4 rfl hg5)) (And.intro hh5 (And.intro hI.full (And.intro hI.live (And.intro hI.nil (And.intro hI.rt hie)))))))
   obtain ⟨cn, hcne⟩ : ∃ z, z = (((s, v) :: E).length : Int) := ⟨_, rfl⟩
   rw [← hcne] at hE1 HUL
   have HCN := Aside0.mk hcne
   clear hI hnd hD hDL k3 k2 hie hown4 hgF htk hinj hM4 hh4 hch4 hh5 hg5 HQ H4o hcne
   go_wp2_with fail
   refine HUL.out.mono ?_
   rintro en w6 ⟨rfl, h6, g6⟩
   have H6 := Aside0.mk (And.intro h6 g6)
   clear h6 g6 HUL
   go_wp2_with fail
   go_ret
   obtain ⟨hM5, hch5, hh5, hfull, hlive, hnil, hrt, hie⟩ := H5.out
   obtain ⟨h6, g6⟩ := H6.out
   have htk := HA.out.2.2.2.2.2.2.2.2.2.2.1
   have hcne := HCN.out
   subst hcne
   refine ⟨rfl, ⟨root, T', h6, (hM5.keepH hh5 g6).mono (by omega), ?_⟩, hch5.trans (ChL.set HA.out.2.2.2.2.1 hh5 rfl g6)⟩
   have hL := HA.out.2.2.1
   refine ⟨hfull, fun p hp => ?_, hnil, hrt, List.nodup_cons.2 ⟨HA.out.2.2.2.2.2.2.2.2.2.1, hL.nd⟩, fun e he => ?_⟩
   ·
    rcases hlive p hp with ⟨e, he, hpe⟩ | hpe
    ·
     exact ⟨e, List.mem_cons_of_mem _ he, hpe⟩
    ·
     exact ⟨(s, v), List.mem_cons_self, by rw [← htk]; exact hpe⟩
   ·
    rcases List.mem_cons.1 he with rfl | he
    ·
     exact ⟨by rw [← htk]; exact HA.out.2.2.2.2.2.2.2.1, HA.out.2.2.2.2.2.1, HA.out.2.2.2.2.2.2.1⟩
    ·
     exact hL.ok e he

end Go.Proofs.YtcnbnljlopopkaaDoor.LsB

-- thin
