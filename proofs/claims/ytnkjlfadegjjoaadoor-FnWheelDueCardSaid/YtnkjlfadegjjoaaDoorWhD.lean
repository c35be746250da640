/- WALKS: what is due: the law of the next expiry. -/
import Derived.Test.YtnkjlfadegjjoaaDoorProg
import Derived.Below
import Derived.Deep.Draws
import Derived.Deep.AppendLies
import Derived.Maps.AppendAt
import Derived.OwnWalk
import Derived.Laws.BytesArg
import Derived.Laws.MakeOwn
import Derived.Laws.OwnMore
import Derived.Deep.OwnRows
import Derived.Tactics
import Derived.Lib.ConvBytes
import Derived.Laws.Slices
import Derived.WalkKit
import Derived.KernelRfl
import Derived.RowKit3
import Derived.Deep.LoopGhost
import Derived.Deep.QuietTactic
import Derived.BigQuiet
import Derived.WideLaws
import Derived.Deep.DeepCutAuto
import Derived.Deep.CutBlock
import Derived.Deep.RegionHeld3
import Derived.Laws.Rows
import Derived.Lib.AppendStr
import Derived.ArgAppend
import Derived.Laws.IdiomCopy
import Derived.OrdersHeld
import Derived.Laws.BitsLemmas
import Derived.RowKit
import Derived.Test.YtnkjlfadegjjoaaDoorRoad
import Derived.Test.YtnkjlfadegjjoaaDoorWWords
import Derived.Test.YtnkjlfadegjjoaaDoorWLast
import Derived.Test.YtnkjlfadegjjoaaDoorWTab
import Derived.Test.YtnkjlfadegjjoaaDoorWFour
import Derived.Test.YtnkjlfadegjjoaaDoorWQPut
import Derived.Test.YtnkjlfadegjjoaaDoorWApart
import Derived.Test.YtnkjlfadegjjoaaDoorWArr
import Derived.Test.YtnkjlfadegjjoaaDoorWZeros
import Derived.Test.YtnkjlfadegjjoaaDoorWFoot
import Derived.Test.YtnkjlfadegjjoaaDoorWKept
import Derived.Test.YtnkjlfadegjjoaaDoorWShare
import Derived.Test.YtnkjlfadegjjoaaDoorWN
import Derived.Test.YtnkjlfadegjjoaaDoorWFootNe
import Derived.Test.YtnkjlfadegjjoaaDoorWAt
import Derived.Test.YtnkjlfadegjjoaaDoorWEqStruct
import Derived.Test.YtnkjlfadegjjoaaDoorWRepsOne
import Derived.Test.YtnkjlfadegjjoaaDoorWInv
import Derived.Test.YtnkjlfadegjjoaaDoorWInvWords
import Derived.Test.YtnkjlfadegjjoaaDoorWGuard
import Derived.Test.YtnkjlfadegjjoaaDoorWNEv
import Derived.Test.YtnkjlfadegjjoaaDoorWMore
import Derived.Test.YtnkjlfadegjjoaaDoorWhT
namespace Go.Proofs.YtnkjlfadegjjoaaDoor.WhD
open Go.RowKit Go.Proofs.YtnkjlfadegjjoaaDoorW.PrintWords Go.Proofs.YtnkjlfadegjjoaaDoorW.PrintLast Go.Proofs.YtnkjlfadegjjoaaDoorW.PrintMore
attribute [local go_sem] max2_int min2_int max_two min_two max_three min_three max_four min_four   -- for this text's walks alone
set_option linter.unusedVariables false
set_option linter.unusedSimpArgs false



open Go.Maps
open _root_.Go.Proofs.YtnkjlfadegjjoaaDoor.WhA
open _root_.Go.Proofs.YtnkjlfadegjjoaaDoor.WhB
open _root_.Go.Proofs.YtnkjlfadegjjoaaDoor.WhC
open _root_.Go.Proofs.YtnkjlfadegjjoaaDoor.WhS
open _root_.Go.Proofs.YtnkjlfadegjjoaaDoor.WhP
open _root_.Go.Proofs.YtnkjlfadegjjoaaDoor.WhT
/-! ### append, and the elder slice is read on -/
theorem run_append_keep (w : World) (base : Nat) (t ty e : TypeId) (i : TypeInfo) (z : Value) (size bytes : Nat) (ht : Tryd.prog.underlying t = some (.slice e)) (hi : Tryd.prog.info? e = some i) (hz : i.zero = some z)
    (hsize : i.size = size) (hby : i.bytes = bytes) (hzs : z.cells.size = size) (hsz : 0 < size)
    (v : Value) (n : Nat) (xs : List Value) (hown : w.ownsRow base e size v n xs)
    (a : Addr) (m c : Nat) (news : List Value) (hl : news.length = m * size) (hnews : ∀ j u, news[j]? = some u → w.cell? (a.add j) = some u) (h1 : ∀ u ∈ news, u.oneCell' = true)
    (h63 : n + m ≤ maxLen) (hbytes : (n + m) * bytes ≤ 140737488355328) (hbase : base ≤ w.heap.size) :
    ∃ v' w', (Builtin.append_ #[t, t] ty #[v, .slice (some a) m c]).run Tryd.prog w = .ok v' w' ∧ w'.ownsRow base e size v' (n + m) (xs ++ news) ∧ w.grownBy w' v.ownBlock ∧ w'.ownsRow base e size v n xs := by
  rcases hown.2 with ⟨rfl, rfl⟩ | ⟨g, cap, cur, rfl, hbg, hg, hnc, hcm, hcs, htake⟩
  · have hx : xs = [] := List.eq_nil_of_length_eq_zero (by simpa using hown.1)
    subst hx
    obtain ⟨v', w', hr, h2, h3, _, h5⟩ := run_append_own_at (P := Tryd.prog) w base t ty e i z size bytes ht hi hz hsize hby hzs hsz (.slice none 0 0) 0 [] (World.ownsRow_nil w base e size) a m c news hl hnews h1 h63 hbytes hbase
    exact ⟨v', w', hr, h2, h3, World.ownsRow_nil w' base e size⟩
  · by_cases hroom : n + m ≤ cap
    · have hlen : (xs ++ news).length = (n + m) * size := by rw [List.length_append, hown.1, hl, Nat.add_mul]
      subst hsize
      have hfit : n * i.size + news.length ≤ cur.size := by rw [hl, hcs, ← Nat.add_mul]; exact Nat.mul_le_mul_right _ hroom
      have hr := Road.run_append_room_any (P := Tryd.prog) w t ty e i ht hi g n cap cur e hg a m c news hl hnews h1 hroom hfit
      have hsz2 : (cur.toList.take (n * i.size) ++ news ++ cur.toList.drop (n * i.size + news.length)).toArray.size = cap * i.size := by
        simp only [List.size_toArray, List.length_append, List.length_take, List.length_drop, Array.length_toList]
        omega
      refine ⟨_, _, hr, ⟨hlen, .inr ⟨g, cap, _, rfl, hbg, setRow_heap w g cur _ e _ hg, hroom, hcm, hsz2, ?_⟩⟩, ⟨rfl, rfl, rfl, by simp, fun k _ hk => setRow_other w g k _ (fun e => hk (by simp [Value.ownBlock, e]))⟩, ⟨hown.1, .inr ⟨g, cap, _, rfl, hbg, setRow_heap w g cur _ e _ hg, hnc, hcm, hsz2, ?_⟩⟩⟩
      · rw [htake, ← hlen]
        exact List.take_left
      · rw [htake, List.append_assoc, ← hown.1]
        exact List.take_left
    · obtain ⟨v', w', hr, h2, h3⟩ := run_append_arg_grows (P := Tryd.prog) w t ty e i z size bytes ht hi hz hsize hby hzs hsz ⟨g, 0, none⟩ n cap xs hown.1 ((Road.AnyRow.of_own hown).cells (g := g) rfl) a m c news hl hnews (by omega) h63 hbytes
      have hglt := (Array.getElem?_eq_some_iff.1 hg).1
      exact ⟨v', w', hr, World.ownsRow.mono h2 hbase, ⟨h3.os, h3.tape, h3.output, h3.size, fun k hk _ => h3.block k hk (by simp)⟩, own_move hown (fun k hk => by
        have : g = k := by simpa [Value.ownBlock] using hk
        subst this
        exact h3.block g hglt (by simp))⟩
theorem RTr_append_keep {ops : Array Oper} {rest : List Oper} {o : Oper} {a : Act} {Q : Exit → Act → World → Prop} {W : World} (base : Nat) (hgd : o.guard = none) (s x : Operand) (ho : o.op = .call { callee := .builtin .append, args := #[s, x], argTypes := #[22, 22] })
    (v : Value) (xs : List Trn) (p : Trn) (hs : a.eval s = v) (hx : a.eval x = .slice (some ⟨W.heap.size, 0, none⟩) 1 1)
    (HO : Kd.R kTr 34 W base (fun _ => True) v xs) (hbase : base ≤ W.heap.size) (hl : xs.length < 1000000)
    (h : ∀ v1 w1, Kd.R kTr 34 w1 base (fun _ => True) v1 (xs ++ [p]) → Kd.R kTr 34 w1 base (fun _ => True) v xs → Below base W w1 → wpList Tryd.prog ops Q rest (a.put o.dst v1) w1) :
    wpList Tryd.prog ops Q (o :: rest) a (W.alloc (.cells [.int .i64 p.1, .int .u64 p.2.1, .int .i64 p.2.2.1, .int .i64 p.2.2.2.1, .bool p.2.2.2.2].toArray 34)) := by
  obtain ⟨i0, hi, hz0, hz1, hz2⟩ := info_parts (P := Tryd.prog) (e := 34) (z := .agg #[.int .i64 0, .int .u64 0, .int .i64 0, .int .i64 0, .bool false]) (size := 5) (bytes := 40) (by kernel_rfl)
  obtain ⟨h0, inner, hown, hr⟩ := HO
  obtain ⟨news, hnews⟩ : ∃ n, n = [Value.int .i64 p.1, .int .u64 p.2.1, .int .i64 p.2.2.1, .int .i64 p.2.2.2.1, .bool p.2.2.2.2] := ⟨_, rfl⟩
  rw [← hnews]
  have hn5 : news.length = 1 * 5 := by rw [hnews]; rfl
  refine wpList_plain hgd fun K hK' => ?_
  obtain ⟨v', w', hrun, r1, r2, r3⟩ := run_append_keep (W.alloc (.cells news.toArray 34)) base 22 o.type 34 i0 _ 5 40 Tryd.underlying22 hi hz0 hz1 hz2 rfl (by decide) v xs.length inner (hown.alloc _) ⟨W.heap.size, 0, none⟩ 1 1 news hn5
    (World.news_of_block (cs := news.toArray) (t := 34) (fr := (0, 0)) (heap_alloc_new W (.cells news.toArray 34))) (by
      intro u hu
      rw [hnews] at hu
      simp only [List.mem_cons, List.not_mem_nil, or_false] at hu
      rcases hu with rfl | rfl | rfl | rfl | rfl <;> rfl) (by unfold maxLen; omega) (by omega) (by simp; omega)
  unfold Oper.wp execOp
  simp only [ho, resolve, invoke, builtin, Sem.run_bind, Sem.run_pure, Result.andThen_ok, List.map_toArray, List.map_cons, List.map_nil, hs, hx, hrun]
  refine hK' _ _ (h v' w' ⟨fun _ _ => trivial, inner ++ news, by rw [List.length_append]; exact r1, ?_⟩ ⟨fun _ _ => trivial, inner, r3, hr.imp_ (fun _ _ q => q)⟩ ?_)
  · have hp : ∀ (w : World) (b : Nat) (ok : Nat → Prop), kTr.M w b ok p news := fun w b ok => by
      rw [hnews]
      exact kTr_mkM _ _ _ _ _ _ _ _
    exact (hr.imp_ (fun _ _ q => q)).snoc (hp _ _ _) (by rw [hn5]; rfl)
  · exact ((Below.refl base W).alloc hbase _).grown r2 (by simp; omega) (own_base hown)
/-! ### stays -/
def StayP (ts : List Trn) : Prop := ∀ t ∈ ts, staysT t
set_option maxHeartbeats 16000000 in
set_option maxRecDepth 100000 in
theorem stays_calls (ts : List Trn) (A : Option Addr) (c : Nat) (w : World) (hC : Kd.C kTr w A ts.length ts) (hN : ts.length < 1000000) :
    Calls Tryd.prog 11 #[.slice A ts.length c] w fun en w' => BoolP (StayP ts) en ∧ w' = w := by
  have HA := Aside0.mk (And.intro hC hN)
  clear hC hN
  go_enter Tryd.func11, Tryd.ntmps11
  go_wp2_with fail
  go_loopw [3] (fun v3 wr => ∃ (i : Nat), v3 = .int .i64 (i : Int) ∧ Aside0 (i ≤ ts.length) ∧ Aside0 ((∀ j, j < i → staysT (rdTr ts j)) ∧ wr = w)) (fun v3 _ => Road.leftOf ts.length v3)
  case atStart => exact ⟨0, rfl, ⟨Nat.zero_le _⟩, ⟨fun j hj => absurd hj (Nat.not_lt_zero _), rfl⟩⟩
  case round =>
    obtain ⟨i, rfl, HI, HS⟩ := hrel
    rcases Nat.lt_or_ge i ts.length with hi | hi
    · have HWI := Aside0.mk (Road.wrap_nat i (by have := HA.out.2; omega))
      have i1 := eq_true (show (i : Int) < (ts.length : Int) by omega)
      have i2 := eq_true hi
      obtain ⟨ad, e0, d0, -, -, -, -⟩ := at_Tr HA.out.1 i hi
      subst e0
      rw [← HS.out.2] at d0
      obtain ⟨op, ht⟩ : ∃ t, t = (rdTr ts i).1 := ⟨_, rfl⟩
      rw [← ht] at d0
      have HT := Aside0.mk ht
      clear ht hi
      by_cases o1 : op = 1
      · subst o1
        go_wp2_with fail
        go_ret
        exact ⟨⟨false, rfl, fun h => absurd h (by simp)⟩, HS.out.2⟩
      · by_cases o2 : op = 2
        · subst o2
          go_wp2_with fail
          go_ret
          exact ⟨⟨false, rfl, fun h => absurd h (by simp)⟩, HS.out.2⟩
        · have p1 := eq_false o1
          have p2 : (op == 1) = false := by simp [o1]
          have p3 := eq_false o2
          have p4 : (op == 2) = false := by simp [o2]
          have HO := Aside0.mk (And.intro o1 o2)
          clear o1 o2
          go_wp2_with fail
          go_roundw
          case rel =>
            refine ⟨i + 1, congrArg (Value.int .i64) HWI.out, ⟨of_eq_true i2⟩, ⟨fun j hj => ?_, HS.out.2⟩⟩
            rcases Nat.lt_or_ge j i with q | q
            · exact HS.out.1 j q
            · have : j = i := by omega
              subst this
              exact ⟨fun e => HO.out.1 (HT.out.trans e), fun e => HO.out.2 (HT.out.trans e)⟩
          case measure => rw [HWI.out]; exact Road.leftOf_lt (of_eq_true i2)
    · have i1 := eq_false (show ¬ (i : Int) < (ts.length : Int) by omega)
      have i2 := eq_false (show ¬ i < ts.length by omega)
      have HI2 := Aside0.mk hi
      clear hi
      go_wp2_with fail
      go_ret
      refine ⟨⟨true, rfl, fun _ t ht => ?_⟩, HS.out.2⟩
      obtain ⟨j, hj, rfl⟩ := List.mem_iff_getElem.1 ht
      have := HS.out.1 j (by have := HI2.out; omega)
      have e : rdTr ts j = ts[j]'hj := by
        unfold rdTr
        rw [List.getD_eq_getElem?_getD, List.getElem?_eq_getElem hj]
        rfl
      rw [e] at this
      exact this
/-! ### FnWheelDue -/
@[reducible] def tE (a : Int) : Trn := (3, 0, a, 0, false)
theorem goodE (l : List Tk) (a : Int) (h : 0 ≤ a ∧ a ≤ 1152921504606846976) : GoodT l (tE a) := ⟨⟨show (0 : Int) ≤ 3 by decide, show (3 : Int) ≤ 3 by decide⟩, ⟨show (0 : Int) ≤ 0 by decide, show (0 : Int) < 18446744073709551616 by decide⟩, h, ⟨show (0 : Int) ≤ 0 by decide, show (0 : Int) ≤ 1152921504606846976 by decide⟩, fun q => absurd q (show ¬ (3 : Int) = 0 by decide), fun q => absurd q (show ¬ ((3 : Int) = 1 ∨ (3 : Int) = 2) by decide)⟩
theorem stepE (l : List Tk) (a : Int) : stepW l (tE a) = (stayL a false l, (0, dueL a l)) := (if_neg (show ¬ (3 : Int) = 0 by decide)).trans ((if_neg (show ¬ (3 : Int) = 1 by decide)).trans (if_neg (show ¬ (3 : Int) = 2 by decide)))
theorem mem_stayE {a : Int} {l : List Tk} {y : Tk} : y ∈ stayL a false l ↔ y ∈ l ∧ a < y.2 := by
  rw [mem_stayL]
  unfold goneB goesB
  constructor
  · rintro ⟨h1, h2⟩
    refine ⟨h1, ?_⟩
    simp only [Bool.not_false, Bool.true_or, Bool.and_true, decide_eq_false_iff_not] at h2
    omega
  · rintro ⟨h1, h2⟩
    refine ⟨h1, ?_⟩
    simp only [Bool.not_false, Bool.true_or, Bool.and_true, decide_eq_false_iff_not]
    omega
def Lo55 (l : List Tk) : Prop := ∀ y ∈ l, y.2 ≤ 36028797018963968
theorem step_lo {l : List Tk} {t : Trn} (h : Lo55 l) (hr : RangeP t) : Lo55 (stepW l t).1 := by
  unfold stepW
  split
  · intro y hy
    rcases List.mem_cons.1 hy with rfl | hy
    · exact hr.2.1.2
    · exact h y hy
  · split
    · split
      · exact fun y hy => h y (List.erase_subset hy)
      · exact h
    · split
      · split
        · intro y hy
          rcases List.mem_cons.1 hy with rfl | hy
          · exact hr.2.2.2
          · exact h y (List.erase_subset hy)
        · exact h
      · exact fun y hy => h y (List.mem_filter.1 hy).1
theorem run_lo : ∀ (ts : List Trn) (l : List Tk), Lo55 l → (∀ i, i < ts.length → RangeP (rdTr ts i)) → Lo55 (runW l ts).1
  | [], l, h, _ => h
  | t :: ts, l, h, hr => run_lo ts (stepW l t).1 (step_lo h (hr 0 (by rw [List.length_cons]; omega))) (fun i hi => hr (i + 1) (by rw [List.length_cons]; omega))
theorem infoTr : (Tryd.prog.info? 34).map (fun i => (i.zero, i.size, i.bytes)) = some (some (.agg #[.int .i64 0, .int .u64 0, .int .i64 0, .int .i64 0, .bool false]), 5, 40) := by kernel_rfl
structure DueP (ts : List Trn) (a : Int) : Prop where
  good1 : GoodR [] (ts ++ [tE a])
  good2 : GoodR [] (ts ++ [tE a] ++ [tE 1152921504606846976])
  stay : ∀ t ∈ ts ++ [tE a], staysT t
  l2 : (runW [] (ts ++ [tE a])).1 = stayL a false (runW [] ts).1
  lo : ∀ y ∈ (runW [] (ts ++ [tE a])).1, a < y.2 ∧ y.2 ≤ 36028797018963968
  cnt : (runW [] (ts ++ [tE a] ++ [tE 1152921504606846976])).1.length = 0
  ans : (runW [] (ts ++ [tE a] ++ [tE 1152921504606846976])).2.length = ts.length + 2
  rest : ((runW [] (ts ++ [tE a] ++ [tE 1152921504606846976])).2.getD (ts.length + 1) dA).2 = (runW [] (ts ++ [tE a])).1
theorem dueP {ts : List Trn} {a : Int} (hG : GoodR [] ts) (hr : ∀ i, i < ts.length → RangeP (rdTr ts i)) (hs : StayP ts) (ha : 0 ≤ a ∧ a ≤ 72057594037927936) : DueP ts a := by
  have g1 : GoodR [] (ts ++ [tE a]) := (GoodR_append _ _ _).2 ⟨hG, goodE _ _ (by omega), trivial⟩
  have e2 : (runW [] (ts ++ [tE a])).1 = stayL a false (runW [] ts).1 := by rw [runW_snoc, stepE]
  have hlo := run_lo ts [] (fun y h => by simp at h) hr
  have hl : ∀ y ∈ (runW [] (ts ++ [tE a])).1, a < y.2 ∧ y.2 ≤ 36028797018963968 := fun y hy => by
    rw [e2] at hy
    obtain ⟨h1, h2⟩ := mem_stayE.1 hy
    exact ⟨h2, hlo y h1⟩
  have hdue : dueL 1152921504606846976 (runW [] (ts ++ [tE a])).1 = (runW [] (ts ++ [tE a])).1 := by
    unfold dueL
    apply List.filter_eq_self.2
    intro y hy
    have := (hl y hy).2
    simp only [decide_eq_true_eq]
    omega
  have hsty : stayL 1152921504606846976 false (runW [] (ts ++ [tE a])).1 = [] := by
    apply List.eq_nil_iff_forall_not_mem.2
    intro y hy
    obtain ⟨h1, h2⟩ := mem_stayE.1 hy
    have := (hl y h1).2
    omega
  have e3 : runW [] (ts ++ [tE a] ++ [tE 1152921504606846976]) = ([], (runW [] (ts ++ [tE a])).2 ++ [(0, (runW [] (ts ++ [tE a])).1)]) := by rw [runW_snoc, stepE, hdue, hsty]
  have hlen : (runW [] (ts ++ [tE a])).2.length = ts.length + 1 := by rw [runW_alen, List.length_append]; rfl
  refine ⟨g1, (GoodR_append _ _ _).2 ⟨g1, goodE _ _ (by omega), trivial⟩, fun t ht => ?_, e2, hl, by rw [e3]; rfl, by rw [e3, List.length_append, hlen]; rfl, ?_⟩
  · rcases List.mem_append.1 ht with h | h
    · exact hs t h
    · rw [List.mem_singleton.1 h]
      exact ⟨show ¬ (3 : Int) = 1 by decide, show ¬ (3 : Int) = 2 by decide⟩
  · rw [e3, List.getD_eq_getElem?_getD]
    show (((runW [] (ts ++ [tE a])).2 ++ [(0, (runW [] (ts ++ [tE a])).1)])[ts.length + 1]?.getD dA).2 = _
    rw [List.getElem?_append_right (by omega), hlen, Nat.sub_self]
    rfl
structure MinP (rs : List Tk) (k : Nat) (z : Int) : Prop where
  mx : z ≤ mxT
  le : ∀ j, j < k → z ≤ (rs.getD j dT).2
  at_ : z = mxT ∨ ∃ j, j < k ∧ (rs.getD j dT).2 = z
theorem getD_memT {rs : List Tk} {j : Nat} (h : j < rs.length) : rs.getD j dT ∈ rs := by
  rw [List.getD_eq_getElem?_getD, List.getElem?_eq_getElem h]
  exact List.getElem_mem h
theorem min_is {rs l : List Tk} {z lo : Int} (hm : MinP rs rs.length z) (hp : rs.Perm l) (hl : LeastOf l lo) (hb : ∀ y ∈ l, y.2 ≤ 36028797018963968) : lo = z := by
  have hmx : mxT = 9223372036854775807 := rfl
  rcases hl with ⟨rfl, rfl⟩ | ⟨⟨y, hy, rfl⟩, hle⟩
  · have : rs = [] := List.Perm.eq_nil hp
    subst this
    rcases hm.at_ with h | ⟨j, hj, _⟩
    · exact h.symm
    · exact absurd hj (Nat.not_lt_zero _)
  · obtain ⟨m, hm1, hme⟩ := List.mem_iff_getElem.1 (hp.mem_iff.2 hy)
    have h1 := hm.le m hm1
    rw [List.getD_eq_getElem?_getD, List.getElem?_eq_getElem hm1, hme] at h1
    have h1' : z ≤ y.2 := h1
    rcases hm.at_ with h | ⟨j, hj, h⟩
    · have := hb y hy
      omega
    · have h2 := hle _ (hp.mem_iff.1 (getD_memT hj))
      rw [h] at h2
      omega
theorem MinP.start (rs : List Tk) : MinP rs 0 mxT := ⟨Int.le_refl _, fun j hj => absurd hj (Nat.not_lt_zero _), .inl rfl⟩
theorem MinP.step {rs : List Tk} {k : Nat} {z z' y : Int} (h : MinP rs k z) (hy : y = (rs.getD k dT).2) (hz : z' = if y < z then y else z) : MinP rs (k + 1) z' := by
  have hle : z' ≤ z ∧ z' ≤ y := by rw [hz]; split <;> omega
  refine ⟨Int.le_trans hle.1 h.mx, fun j hj => ?_, ?_⟩
  · rcases Nat.lt_or_ge j k with q | q
    · exact Int.le_trans hle.1 (h.le j q)
    · have : j = k := by omega
      subst this
      rw [← hy]
      exact hle.2
  · by_cases c : y < z
    · rw [if_pos c] at hz
      exact .inr ⟨k, Nat.lt_succ_self k, hy.symm.trans hz.symm⟩
    · rw [if_neg c] at hz
      rw [hz]
      exact h.at_.imp id (fun ⟨j, hj, e⟩ => ⟨j, Nat.lt_succ_of_lt hj, e⟩)
set_option maxHeartbeats 40000000 in
set_option maxRecDepth 100000 in
theorem due_calls (ts : List Trn) (a : Int) (A : Option Addr) (c : Nat) (w : World) (hC : Kd.C kTr w A ts.length ts) (hc : ts.length ≤ c) (hE : WLaid w) (hw : ∀ i, i < ts.length → wfU (rdTr ts i).2.1) :
    Calls Tryd.prog 4 #[.slice A ts.length c, .int .i64 a] w fun en w' => en = .returned (.bool true) ∧ Below w.heap.size w w' := by
  have HA := Aside0.mk (And.intro hC (And.intro hc (And.intro hE hw)))
  by_cases hm : 2147483647 < ts.length
  · have n1 := eq_true (show 2147483647 < (ts.length : Int) by omega)
    have n2 := eq_true hm
    have n3 : decide (2147483647 < (ts.length : Int)) = true := decide_eq_true (show 2147483647 < (ts.length : Int) by omega)
    clear hm hC hc hE hw
    go_enter Tryd.func4, Tryd.ntmps4
    go_wp2_with fail
    go_ret
    exact ⟨rfl, Below.refl _ _⟩
  · have n1 := eq_false (show ¬ 2147483647 < (ts.length : Int) by omega)
    have n2 := eq_false hm
    have n3 : decide (2147483647 < (ts.length : Int)) = false := decide_eq_false (show ¬ 2147483647 < (ts.length : Int) by omega)
    have HT := Aside0.mk (turns_calls ts A c w hC hc)
    clear hm hC hc hE hw
    go_enter Tryd.func4, Tryd.ntmps4
    go_wp2_with fail
    refine HT.out.mono ?_
    rintro en w1 ⟨⟨b, rfl, hb⟩, hbl⟩
    have HB1 := Aside0.mk hbl
    clear hbl
    cases b with
    | false =>
      clear hb
      go_wp2_with fail
      refine (awake_calls w1 (HA.out.2.2.1.below HB1.out)).mono ?_
      rintro en w2 ⟨rfl, hb2⟩
      have HB2 := Aside0.mk hb2
      clear hb2
      go_wp2_with fail
      go_ret
      exact ⟨rfl, HB1.out.trans (HB2.out.mono HB1.out.size)⟩
    | true =>
      have hTP := hb rfl
      have hRel := run_rel ts [] [] (turnsP_good hTP HA.out.2.2.2) ⟨List.nodup_nil, fun y h => by simp at h⟩ (List.Perm.refl _)
      have HTP := Aside0.mk (And.intro hTP.len (And.intro hTP.rng hRel.2.2.1))
      clear hb hTP hRel
      go_wp2_with fail
      refine (stays_calls ts A c w1 (Kd.C_below HA.out.1 HB1.out) (by have := HTP.out.1; omega)).mono ?_
      rintro en w2 ⟨⟨b, rfl, hb⟩, hw2⟩
      subst hw2
      cases b with
      | false =>
        clear hb
        go_wp2_with fail
        refine (awake_calls w2 (HA.out.2.2.1.below HB1.out)).mono ?_
        rintro en w3 ⟨rfl, hb2⟩
        have HB2 := Aside0.mk hb2
        clear hb2
        go_wp2_with fail
        go_ret
        exact ⟨rfl, HB1.out.trans (HB2.out.mono HB1.out.size)⟩
      | true =>
        have HST := Aside0.mk (hb rfl)
        clear hb
        by_cases a0 : a < 0
        · have p1 := eq_true a0
          have p2 : decide (a < 0) = true := decide_eq_true a0
          clear a0
          go_wp2_with fail
          refine (awake_calls w2 (HA.out.2.2.1.below HB1.out)).mono ?_
          rintro en w3 ⟨rfl, hb2⟩
          have HB2 := Aside0.mk hb2
          clear hb2
          go_wp2_with fail
          go_ret
          exact ⟨rfl, HB1.out.trans (HB2.out.mono HB1.out.size)⟩
        · by_cases a1 : 72057594037927936 < a
          · have p1 := eq_false a0
            have p2 : decide (a < 0) = false := decide_eq_false a0
            have p3 := eq_true a1
            have p4 : decide (72057594037927936 < a) = true := decide_eq_true a1
            clear a0 a1
            go_wp2_with fail
            refine (awake_calls w2 (HA.out.2.2.1.below HB1.out)).mono ?_
            rintro en w3 ⟨rfl, hb2⟩
            have HB2 := Aside0.mk hb2
            clear hb2
            go_wp2_with fail
            go_ret
            exact ⟨rfl, HB1.out.trans (HB2.out.mono HB1.out.size)⟩
          · have HD := Aside0.mk (And.intro (dueP (a := a) HTP.out.2.2 HTP.out.2.1 HST.out ⟨by omega, by omega⟩) (show 0 ≤ a ∧ a ≤ 72057594037927936 from ⟨by omega, by omega⟩))
            have p1 := eq_false a0
            have p2 : decide (a < 0) = false := decide_eq_false a0
            have p3 := eq_false a1
            have p4 : decide (72057594037927936 < a) = false := decide_eq_false a1
            clear a0 a1
            go_upto_region 6 with (first | ((with_reducible refine gate_dst (N := 32) rfl ?_); refine Kd.R_lit kTr w.heap.size 34 ?hg (N := 32) ?hd (xs := ([] : List Trn)) (inner := []) (ok := fun _ => True) (okp := fun _ => True) ?hr ?hp (fun _ hk => hk) trivial (Below.refl _ w2) HB1.out.size (by simp) ?_; (case hd => rfl); (case hg => rfl); (case hr => first | (go_simp; done) | (go_simp; rfl)); (case hp => exact (Reps.none _ _)); intro v5 w3 ho4 hb4 hg_ hnew_; have H4 := Aside0.mk (And.intro ho4 hb4); clear hg_ hnew_ ho4 hb4) | ((with_reducible refine gate_builtin (b := .append) (xs := #[.tmp 32, .tmp 33]) rfl ?_); at_builtin; refine Kd.R_append_rows kTr (w0 := w2) w.heap.size rfl (.tmp 32) (.tmp 33) 22 34 (.agg #[.int .i64 0, .int .u64 0, .int .i64 0, .int .i64 0, .bool false]) 40 rfl Tryd.underlying22 infoTr rfl (by decide) (by omega) v5 [] ts _ _ _ (fun _ => True) (fun _ => False) rfl rfl H4.out.1 (Kd.C_below HA.out.1 (HB1.out.trans H4.out.2)) (fun x cs h => by rw [kTr_open h]; exact kTr_mkM _ _ _ _ _ _ _ _) (fun _ h => h.elim) (fun _ _ => trivial) H4.out.2 (Nat.le_trans HB1.out.size H4.out.2.size) (by have := HTP.out.1; simp only [List.length_nil]; omega) ?_; intro v6 w4 ho5 hb5 hg5 hat5; rw [List.nil_append] at ho5; have H5 := Aside0.mk (And.intro ho5 hb5); clear ho5 hb5 hg5 hat5) | ((with_reducible refine gate_builtin (b := .append) (xs := #[.tmp 34, .tmp 37]) rfl ?_); at_builtin; refine Kd.R_append kTr (w0 := w2) w.heap.size rfl (.tmp 34) (.tmp 37) 22 34 (.agg #[.int .i64 0, .int .u64 0, .int .i64 0, .int .i64 0, .bool false]) 40 rfl Tryd.underlying22 infoTr rfl (by decide) (by decide) v6 ts (tE a) [.int .i64 3, .int .u64 0, .int .i64 a, .int .i64 0, .bool false] (fun _ => True) (fun _ => False) rfl rfl (kTr_mkM _ _ _ _ _ _ _ _) (fun _ hk => hk.elim) (fun k hk => trivial) H5.out.1 H5.out.2 (Nat.le_trans HB1.out.size H5.out.2.size) (by have := HTP.out.1; omega) ?_; intro v7 w5 ho6 hb6 hg6 hat6; have H6 := Aside0.mk (And.intro ho6 hb6); clear ho6 hb6 hg6 hat6) | fail)
            obtain ⟨A7, c7, hv7⟩ := Kd.R_slice H6.out.1
            have hR7 := H6.out.1
            rw [hv7] at hR7
            have hl7 : (ts ++ [tE a]).length = ts.length + 1 := by rw [List.length_append]; rfl
            subst hv7
            obtain ⟨wth, hwth⟩ : ∃ x, x = ts ++ [tE a] := ⟨_, rfl⟩
            have hb05 : Below w.heap.size w w5 := HB1.out.trans H6.out.2
            rw [← hwth] at hR7 hl7
            rw [← hwth]
            obtain ⟨-, hc7, hC7⟩ := Kd.R_reads' hR7
            have HWI := Aside0.mk hwth
            have H7 := Aside0.mk (And.intro hR7 (And.intro hc7 (And.intro hC7 (And.intro hb05 hl7))))
            have hD := HD.out.1
            have e1 : wrap64 (a + 1) = a + 1 := Road.w64 _ _ rfl (by have := HD.out.2; omega) (by have := HD.out.2; omega)
            have e1' : IntKind.i64.wrap (a + 1) = a + 1 := Road.wi64 _ _ rfl (by have := HD.out.2; omega) (by have := HD.out.2; omega)
            have HN1 := Aside0.mk (next_calls wth (a + 1) A7 c7 w5 hC7 hc7 (HA.out.2.2.1.below hb05) (by rw [hwth]; exact hD.good1) (by rw [hl7]; have := HTP.out.1; omega) (by rw [hwth]; exact hD.stay))
            clear hR7 hl7 hwth hb05 hc7 hC7 hD H4 H5 H6 HT
            go_wp2_with fail
            refine HN1.out.mono ?_
            rintro en w6 ⟨⟨lo, rfl, hlo⟩, hb6⟩
            have hlo1 : ¬ lo < a + 1 := by
              have hmx : mxT = 9223372036854775807 := rfl
              have h2 := HD.out.2
              rcases hlo with ⟨_, rfl⟩ | ⟨⟨y, hy, rfl⟩, _⟩
              · omega
              · rw [HWI.out] at hy
                have := (HD.out.1.lo y hy).1
                omega
            rw [if_neg hlo1]
            have HB6 := Aside0.mk hb6
            clear hlo hb6 hlo1 HN1
            obtain ⟨wt2, hwt2⟩ : ∃ x, x = wth ++ [tE 1152921504606846976] := ⟨_, rfl⟩
            have hl8 : wt2.length < 1000000 := by
              have h1 := H7.out.2.2.2.2
              have h2 := HTP.out.1
              rw [hwt2, List.length_append, List.length_singleton]
              omega
            have HW2 := Aside0.mk (And.intro hwt2 hl8)
            clear hwt2 hl8
            have hR76 := Kd.R_below H7.out.1 HB6.out
            have hbs6 : w.heap.size ≤ w6.heap.size := Nat.le_trans H7.out.2.2.2.1.size HB6.out.size
            go_wp2_with (first | ((with_reducible refine gate_builtin (b := .append) (xs := #[.tmp 45, .tmp 47]) rfl ?_); at_builtin; refine RTr_append_keep (W := w6) w.heap.size rfl (.tmp 45) (.tmp 47) rfl (.slice A7 wth.length c7) wth (tE 1152921504606846976) rfl rfl hR76 hbs6 (by have := H7.out.2.2.2.2; have := HTP.out.1; omega) ?_; intro v8 w7 ho8 hold hb7; rw [← HW2.out.1] at ho8; have H8 := Aside0.mk (And.intro ho8 (And.intro hold hb7)); obtain ⟨A8, c8, hv8⟩ := Kd.R_slice ho8; clear ho8 hold hb7; subst hv8) | fail)
            have hb07 : Below w.heap.size w w7 := (H7.out.2.2.2.1.trans (HB6.out.mono H7.out.2.2.2.1.size)).trans H8.out.2.2
            obtain ⟨-, hc8, hC8⟩ := Kd.R_reads' H8.out.1
            have HRUN := Aside0.mk (run_calls wt2 A8 c8 w7 hC8 hc8 (HA.out.2.2.1.below hb07) (by rw [HW2.out.1, HWI.out]; exact HD.out.1.good2) HW2.out.2)
            refine HRUN.out.mono ?_
            rintro en w8 ⟨v9, rs, rfl, hAn, hRr, hb8, -⟩
            have hcnt : (((runW [] wt2).1.length : Nat) : Int) = 0 := by rw [HW2.out.1, HWI.out, HD.out.1.cnt]; rfl
            rw [hcnt]
            have hrl : rs.length = ts.length + 2 := by rw [hAn.len, HW2.out.1, HWI.out, HD.out.1.ans]
            obtain ⟨A9, c9, hv9⟩ := Kd.R_slice hRr
            rw [hrl] at hv9
            subst hv9
            have hb08 : Below w.heap.size w w8 := hb07.trans (hb8.mono hb07.size)
            have hans := ans_at hAn (ts.length + 1) (by omega)
            rw [HW2.out.1, HWI.out] at hans
            have hperm : (rs.getD (ts.length + 1) dA).2.Perm (runW [] (ts ++ [tE a])).1 := by
              have := hans.2
              rwa [HD.out.1.rest] at this
            have H9 := Aside0.mk (And.intro hb08 (And.intro (Kd.R_below H8.out.2.1 hb8) (And.intro (CA_fromR hRr).2 (And.intro hperm hrl))))
            clear hcnt hAn hRr hb8 hb08 hans hperm hrl hb07 hc8 hC8 hR76 hbs6 HRUN
            obtain ⟨-, hc7, hC7⟩ := Kd.R_reads' H9.out.2.1
            have HN2 := Aside0.mk (next_calls wth 144115188075855872 A7 c7 w8 hC7 hc7 (HA.out.2.2.1.below H9.out.1) (by rw [HWI.out]; exact HD.out.1.good1) (by have := H7.out.2.2.2.2; have := HTP.out.1; omega) (by rw [HWI.out]; exact HD.out.1.stay))
            clear hc7 hC7
            go_wp2_with fail
            refine HN2.out.mono ?_
            rintro en w9 ⟨⟨lo2, rfl, hlo2⟩, hb9⟩
            have hif : (if lo2 < 144115188075855872 then lo2 else mxT) = lo2 := by
              have hmx : mxT = 9223372036854775807 := rfl
              rcases hlo2 with ⟨_, rfl⟩ | ⟨⟨y, hy, rfl⟩, _⟩
              · rw [if_neg (by omega)]
              · rw [HWI.out] at hy
                have := (HD.out.1.lo y hy).2
                rw [if_pos (by omega)]
            rw [hif]
            have hb09 : Below w.heap.size w w9 := H9.out.1.trans (hb9.mono H9.out.1.size)
            obtain ⟨ad9, A10, c10, e9, -, k10, hl10, hC10⟩ := CA_at (Kd.C_below H9.out.2.2.1.2 hb9) (ts.length + 1) (by omega)
            subst e9
            obtain ⟨xs, hxs⟩ : ∃ x, x = (rs.getD (ts.length + 1) dA).2 := ⟨_, rfl⟩
            have hperm := H9.out.2.2.2.1
            rw [← hxs] at k10 hl10 hC10 hperm
            have hxl : xs.length < 1000000 := by
              rw [hperm.length_eq]
              have h1 := runW_len (ts ++ [tE a]) []
              rw [List.length_append] at h1
              simp only [List.length_nil, List.length_singleton] at h1
              have := HTP.out.1
              omega
            rw [HWI.out] at hlo2
            have H10 := Aside0.mk (And.intro hb09 (And.intro hC10 (And.intro hperm (And.intro hlo2 hxl))))
            have wl2 : wrap64 ((ts.length : Int) + 2) = ((ts.length + 2 : Nat) : Int) := Road.w64 _ _ (by omega) (by omega) (by have := HTP.out.1; omega)
            have HWL2 := Aside0.mk wl2
            clear wl2
            have HWL1 := Aside0.mk (Road.wrap_nat ts.length (by have := HTP.out.1; omega))
            have j1 := eq_true (show ((ts.length + 1 : Nat) : Int) < ((ts.length + 2 : Nat) : Int) by omega)
            have j2 := eq_true (show ts.length + 1 < ts.length + 2 by omega)
            have wl1 := HWL1.out
            have wl2 := HWL2.out
            clear hif hlo2 hb9 hb09 hC10 hperm hxl hxs hl10 HN2 H8 e1 e1'
            go_wp2_with fail
            go_loopw [9, 11] (fun v9 v11 wr => ∃ (k : Nat) (z : Int), v9 = .int .i64 z ∧ v11 = .int .i64 (k : Int) ∧ Aside0 (k ≤ xs.length) ∧ Aside0 (MinP xs k z ∧ Below w.heap.size w wr ∧ Kd.C kT wr A10 xs.length xs)) (fun _ v11 _ => Road.leftOf xs.length v11)
            case atStart => exact ⟨0, mxT, rfl, rfl, ⟨Nat.zero_le _⟩, ⟨MinP.start xs, H10.out.1, H10.out.2.1⟩⟩
            case round =>
              obtain ⟨k, z, rfl, rfl, HK, HM⟩ := hrel
              clear wl1 wl2 k10
              rcases Nat.lt_or_ge k xs.length with hk | hk
              · have HWK := Aside0.mk (Road.wrap_nat k (by have := H10.out.2.2.2.2; omega))
                have m1 := eq_true (show (k : Int) < (xs.length : Int) by omega)
                have m2 := eq_true hk
                obtain ⟨a10, e10, -, ky⟩ := CT_at HM.out.2.2 k hk
                subst e10
                obtain ⟨y, hy⟩ : ∃ y, y = (xs.getD k dT).2 := ⟨_, rfl⟩
                rw [← hy] at ky
                have hya : a < y := by
                  have h1 := (HD.out.1.lo _ (H10.out.2.2.1.mem_iff.1 (getD_memT hk))).1
                  rw [← hy] at h1
                  exact h1
                have m3 := eq_false (show ¬ y ≤ a by omega)
                have m4 : decide (y ≤ a) = false := decide_eq_false (show ¬ y ≤ a by omega)
                have HY := Aside0.mk hy
                clear hy hya hk
                go_wp2_with fail
                go_roundw
                case rel => exact ⟨k + 1, _, rfl, congrArg (Value.int .i64) HWK.out, ⟨of_eq_true m2⟩, ⟨HM.out.1.step HY.out rfl, HM.out.2.1, HM.out.2.2⟩⟩
                case measure => rw [HWK.out]; exact Road.leftOf_lt (of_eq_true m2)
              · have m1 := eq_false (show ¬ (k : Int) < (xs.length : Int) by omega)
                have m2 := eq_false (show ¬ k < xs.length by omega)
                have hkk : k = xs.length := by have := HK.out; omega
                have hM := HM.out.1
                rw [hkk] at hM
                have hz : lo2 = z := min_is hM H10.out.2.2.1 H10.out.2.2.2.1 (fun y hy => (HD.out.1.lo y hy).2)
                subst hz
                have HAW := Aside0.mk (awake_calls wr (HA.out.2.2.1.below HM.out.2.1))
                clear hk hkk hM
                go_wp2_with fail
                refine HAW.out.mono ?_
                rintro en w11 ⟨rfl, hb11⟩
                have HB11 := Aside0.mk hb11
                clear hb11
                go_wp2_with fail
                go_ret
                exact ⟨rfl, HM.out.2.1.trans (HB11.out.mono HM.out.2.1.size)⟩

end Go.Proofs.YtnkjlfadegjjoaaDoor.WhD
