/- WALKS: turns over a wheel. -/
import Derived.Test.YtnkjlfadegjjoaaDoorProg
import Derived.Below
import Derived.Deep.Draws
import Derived.Deep.AppendLies
import Derived.Maps.AppendAt
import Derived.OwnWalk
import Derived.Laws.BytesArg
import Derived.Laws.MakeOwn
import Derived.Laws.OwnMore
import Derived.Deep.OwnRows
import Derived.Tactics
import Derived.Lib.ConvBytes
import Derived.Laws.Slices
import Derived.WalkKit
import Derived.KernelRfl
import Derived.RowKit3
import Derived.Deep.LoopGhost
import Derived.Deep.QuietTactic
import Derived.BigQuiet
import Derived.WideLaws
import Derived.Deep.DeepCutAuto
import Derived.Deep.CutBlock
import Derived.Deep.RegionHeld3
import Derived.Laws.Rows
import Derived.Lib.AppendStr
import Derived.ArgAppend
import Derived.Laws.IdiomCopy
import Derived.OrdersHeld
import Derived.Laws.BitsLemmas
import Derived.RowKit
import Derived.Test.YtnkjlfadegjjoaaDoorWWords
import Derived.Test.YtnkjlfadegjjoaaDoorWLast
import Derived.Test.YtnkjlfadegjjoaaDoorWTab
import Derived.Test.YtnkjlfadegjjoaaDoorWFour
import Derived.Test.YtnkjlfadegjjoaaDoorWQPut
import Derived.Test.YtnkjlfadegjjoaaDoorWApart
import Derived.Test.YtnkjlfadegjjoaaDoorWArr
import Derived.Test.YtnkjlfadegjjoaaDoorWZeros
import Derived.Test.YtnkjlfadegjjoaaDoorWFoot
import Derived.Test.YtnkjlfadegjjoaaDoorWKept
import Derived.Test.YtnkjlfadegjjoaaDoorWShare
import Derived.Test.YtnkjlfadegjjoaaDoorWN
import Derived.Test.YtnkjlfadegjjoaaDoorWFootNe
import Derived.Test.YtnkjlfadegjjoaaDoorWAt
import Derived.Test.YtnkjlfadegjjoaaDoorWEqStruct
import Derived.Test.YtnkjlfadegjjoaaDoorWRepsOne
import Derived.Test.YtnkjlfadegjjoaaDoorWInv
import Derived.Test.YtnkjlfadegjjoaaDoorWInvWords
import Derived.Test.YtnkjlfadegjjoaaDoorWGuard
import Derived.Test.YtnkjlfadegjjoaaDoorWNEv
import Derived.Test.YtnkjlfadegjjoaaDoorWMore
import Derived.Test.YtnkjlfadegjjoaaDoorWhB
namespace Go.Proofs.YtnkjlfadegjjoaaDoor.WhC
open Go.RowKit Go.Proofs.YtnkjlfadegjjoaaDoorW.PrintWords Go.Proofs.YtnkjlfadegjjoaaDoorW.PrintLast Go.Proofs.YtnkjlfadegjjoaaDoorW.PrintMore
attribute [local go_sem] max2_int min2_int max_two min_two max_three min_three max_four min_four   -- for this text's walks alone
set_option linter.unusedVariables false
set_option linter.unusedSimpArgs false



open Go.Maps
open _root_.Go.Proofs.YtnkjlfadegjjoaaDoor.WhA
open _root_.Go.Proofs.YtnkjlfadegjjoaaDoor.WhB
/-! ### turns over a wheel -/
abbrev Trn := Int × Int × Int × Int × Bool
def kTr : Kd Trn := Kd.pair (Kd.int .i64) (Kd.pair (Kd.int .u64) (Kd.pair (Kd.int .i64) (Kd.pair (Kd.int .i64) Kd.bool)))
theorem kTr_open {w : World} {x : Trn} {cs : List Value} (h : kTr.K w x cs) : cs = [.int .i64 x.1, .int .u64 x.2.1, .int .i64 x.2.2.1, .int .i64 x.2.2.2.1, .bool x.2.2.2.2] := by
  obtain ⟨_, _, rfl, rfl, ⟨_, _, rfl, rfl, ⟨_, _, rfl, rfl, ⟨_, _, rfl, rfl, rfl⟩⟩⟩⟩ := h
  exact rfl
def rdTr (ts : List Trn) (i : Nat) : Trn := ts.getD i (0, 0, 0, 0, false)
theorem at_Tr {w : World} {A : Option Addr} {n : Nat} {ts : List Trn} (h : Kd.C kTr w A n ts) (i : Nat) (h1 : i < n) : ∃ ad, A = some ad ∧ w.cell? (ad.add (i * 5)) = some (.int .i64 (rdTr ts i).1) ∧ w.cell? ⟨(ad.add (i * 5)).block, (ad.add (i * 5)).off + 1, none⟩ = some (.int .u64 (rdTr ts i).2.1) ∧
    w.cell? ⟨(ad.add (i * 5)).block, (ad.add (i * 5)).off + 2, none⟩ = some (.int .i64 (rdTr ts i).2.2.1) ∧ w.cell? ⟨(ad.add (i * 5)).block, (ad.add (i * 5)).off + 3, none⟩ = some (.int .i64 (rdTr ts i).2.2.2.1) ∧
    w.cell? ⟨(ad.add (i * 5)).block, (ad.add (i * 5)).off + 4, none⟩ = some (.bool (rdTr ts i).2.2.2.2) := by
  obtain ⟨ad, c, e, _, hK, hc0⟩ := Kd.C_get h (0, 0, 0, 0, false) (i : Int) (by omega) (by omega)
  simp only [Int.toNat_natCast] at hc0 hK
  have hc : ∀ j u, c[j]? = some u → w.cell? (ad.add (i * 5 + j)) = some u := hc0
  obtain rfl := kTr_open hK
  exact ⟨ad, e, hc 0 _ rfl, by rw [← add_field _ _ 1 (by omega)]; exact hc 1 _ rfl, by rw [← add_field _ _ 2 (by omega)]; exact hc 2 _ rfl, by rw [← add_field _ _ 3 (by omega)]; exact hc 3 _ rfl, by rw [← add_field _ _ 4 (by omega)]; exact hc 4 _ rfl⟩
def kA : Kd (Int × List Tk) := Kd.pair (Kd.int .i64) (Kd.slice 39 kT)
theorem infoA : (Tryd.prog.info? 37).map (fun i => (i.zero, i.size, i.bytes)) = some (some (.agg #[(.int .i64 0), (.slice none 0 0)]), 2, 32) := by kernel_rfl
theorem kA_mkM {w : World} {base : Nat} {ok : Nat → Prop} {k : Int} {xs : List Tk} {v : Value} (h : Kd.R kT 39 w base ok v xs) : kA.M w base ok (k, xs) [.int .i64 k, v] := ⟨[.int .i64 k], [v], rfl, rfl, ⟨v, rfl, h⟩⟩
theorem RA_keep {w w' : World} {base : Nat} {ok : Nat → Prop} {v : Value} {rs : List (Int × List Tk)} (h : Kd.R kA 37 w base ok v rs) (hk : ∀ (k : Nat) (o : Obj), w.heap[k]? = some o → wk o = false → w'.heap[k]? = some o) : Kd.R kA 37 w' base ok v rs := by
  refine Kd.R_mono (Kd.R_move (Kd.R_bound h) (fun k hk' => ?_)) (fun _ q => q.1)
  obtain ⟨_, _, _, q, hq, cells, hc⟩ := hk'
  rw [hc]
  refine hk k _ hc ?_
  have : q = 37 ∨ q = 39 := by simpa [kA, kT, Kd.pair, Kd.slice, Kd.int, Kd.scalar] using hq
  rcases this with e | e <;> rw [e] <;> rfl
theorem one_nil (w : World) : Calls Tryd.prog 25 #[Value.nilIface] w fun en w' => en = .returned (.int .i64 0) ∧ w' = w := by
  go_enter Tryd.func25, Tryd.ntmps25
  go_wp2_with fail
  go_ret
  exact ⟨rfl, rfl⟩
theorem one_err (t : TypeId) (v : Value) (w : World) : Calls Tryd.prog 25 #[.iface t v] w fun en w' => en = .returned (.int .i64 1) ∧ w' = w := by
  go_enter Tryd.func25, Tryd.ntmps25
  go_wp2_with fail
  go_ret
  exact ⟨rfl, rfl⟩
set_option maxRecDepth 100000 in
theorem expAt_calls (N B hb : Nat) (ex : Prop) (l : List Tk) (base ab tb : Nat) (kd op sq exx nw : Int) (odd : Bool) (ts : Int) (w : World) (h : WheelAt N w B hb ex l) (hB : B ≤ base) (hBa : B ≤ ab) (hbs : base ≤ w.heap.size) (hC : CloI base ab tb kd (cellsT op sq exx nw odd) [] w) :
    Calls Tryd.prog 29 #[.pointer (some ⟨hb, 0, none⟩), .int .i64 ts, .func (.func 30) #[] #[.pointer (some ⟨ab, 0, none⟩), .pointer (some ⟨tb, 0, none⟩)]] w fun en w' => en = .returned (.tuple #[]) ∧ ExpPost N B hb ex l ts odd base ab tb kd (cellsT op sq exx nw odd) w w' := by
  have HE := Aside0.mk (exp_calls N B hb ex l base ab tb kd op sq exx nw odd ts w h hB hBa hbs hC)
  clear h hB hBa hbs hC
  go_enter Tryd.func29, Tryd.ntmps29
  go_wp2_with fail
  refine HE.out.mono ?_
  rintro en w1 ⟨rfl, h1⟩
  have H1 := Aside0.mk h1
  clear h1
  go_wp2_with fail
  go_end0
  exact ⟨rfl, H1.out⟩
/-! #### in plain Lean -/
def stepW (l : List Tk) (t : Trn) : List Tk × (Int × List Tk) :=
  if t.1 = 0 then ((t.2.1, t.2.2.1) :: l, (0, []))
  else if t.1 = 1 then (if (t.2.1, t.2.2.1) ∈ l then (l.erase (t.2.1, t.2.2.1), (0, [])) else (l, (1, [])))
  else if t.1 = 2 then (if (t.2.1, t.2.2.1) ∈ l then ((t.2.1, t.2.2.2.1) :: l.erase (t.2.1, t.2.2.1), (0, [])) else (l, (1, [])))
  else (stayL t.2.2.1 t.2.2.2.2 l, (0, dueL t.2.2.1 l))
structure GoodT (l : List Tk) (t : Trn) : Prop where
  op : 0 ≤ t.1 ∧ t.1 ≤ 3
  sq : wfU t.2.1
  ex : 0 ≤ t.2.2.1 ∧ t.2.2.1 ≤ 1152921504606846976
  nw : 0 ≤ t.2.2.2.1 ∧ t.2.2.2.1 ≤ 1152921504606846976
  fresh : t.1 = 0 → ∀ z, (t.2.1, z) ∉ l
  there : t.1 = 1 ∨ t.1 = 2 → (t.2.1, t.2.2.1) ∈ l ∨ ∀ z, (t.2.1, z) ∉ l
def runW : List Tk → List Trn → List Tk × List (Int × List Tk)
  | l, [] => (l, [])
  | l, t :: ts => ((runW (stepW l t).1 ts).1, (stepW l t).2 :: (runW (stepW l t).1 ts).2)
def GoodR : List Tk → List Trn → Prop
  | _, [] => True
  | l, t :: ts => GoodT l t ∧ GoodR (stepW l t).1 ts
def AnsEq (a b : Int × List Tk) : Prop := a.1 = b.1 ∧ a.2.Perm b.2
inductive AnsAll : List (Int × List Tk) → List (Int × List Tk) → Prop
  | nil : AnsAll [] []
  | cons {a b : Int × List Tk} {rs bs : List (Int × List Tk)} : AnsEq a b → AnsAll rs bs → AnsAll (a :: rs) (b :: bs)
theorem AnsAll.snoc {rs bs : List (Int × List Tk)} (h : AnsAll rs bs) {a b : Int × List Tk} (e : AnsEq a b) : AnsAll (rs ++ [a]) (bs ++ [b]) := by
  induction h with
  | nil => exact .cons e .nil
  | cons e' _ ih => exact .cons e' ih
theorem runW_append : ∀ (ts us : List Trn) (l : List Tk), runW l (ts ++ us) = ((runW (runW l ts).1 us).1, (runW l ts).2 ++ (runW (runW l ts).1 us).2)
  | [], us, l => rfl
  | t :: ts, us, l => by rw [List.cons_append, runW, runW_append ts us]; rfl
theorem GoodR_append : ∀ (ts us : List Trn) (l : List Tk), GoodR l (ts ++ us) ↔ GoodR l ts ∧ GoodR (runW l ts).1 us
  | [], us, l => by simp [GoodR, runW]
  | t :: ts, us, l => by rw [List.cons_append, GoodR, GoodR_append ts us, GoodR, runW]; exact and_assoc.symm
def staysT (t : Trn) : Prop := t.1 ≠ 1 ∧ t.1 ≠ 2
/-- The wheel behind a turn: some list that is the law's but for the order. -/
theorem chW_new {B : Nat} {w w1 w2 : World} (h : ChW B w w1) {g : Nat} (hg : w1.grownBy w2 (some g)) (hn : w.heap.size ≤ g) (hB : B ≤ w.heap.size) : ChW B w w2 :=
  ⟨hg.os.trans h.os, hg.tape.trans h.tape, hg.output.trans h.output, Nat.le_trans h.size hg.size, fun k hk hs => (hg.block k (Nat.lt_of_lt_of_le hs h.size) (fun e => by injection e with e; omega)).trans (h.low k hk hs), fun k o ho hk => by
    have hlt := (Array.getElem?_eq_some_iff.1 ho).1
    exact (hg.block k (Nat.lt_of_lt_of_le hlt h.size) (fun e => by injection e with e; omega)).trans (h.typ k o ho hk)⟩
theorem dueL_len (ts : Int) (l : List Tk) : (stayL ts true l).length ≤ l.length := List.length_filter_le _ _
theorem stepW_len (l : List Tk) (t : Trn) : (stepW l t).1.length ≤ l.length + 1 := by
  unfold stepW
  split
  · exact Nat.le_refl _
  · split
    · split
      · exact Nat.le_succ_of_le (List.length_erase_le)
      · exact Nat.le_succ _
    · split
      · split
        · show (_ :: l.erase _).length ≤ _
          rw [List.length_cons]
          exact Nat.succ_le_succ List.length_erase_le
        · exact Nat.le_succ _
      · exact Nat.le_succ_of_le (List.length_filter_le _ _)
theorem runW_len : ∀ (ts : List Trn) (l : List Tk), (runW l ts).1.length ≤ l.length + ts.length
  | [], l => Nat.le_refl _
  | t :: ts, l => by
    have h1 := runW_len ts (stepW l t).1
    have h2 := stepW_len l t
    rw [runW, List.length_cons]
    show (runW (stepW l t).1 ts).1.length ≤ _
    omega
theorem take_snoc (ts : List Trn) (i : Nat) (h : i < ts.length) : ts.take (i + 1) = ts.take i ++ [rdTr ts i] := by
  rw [List.take_succ_eq_append_getElem h]
  congr 2
  unfold rdTr
  rw [List.getD_eq_getElem?_getD, List.getElem?_eq_getElem h]
  rfl
theorem runW_snoc (ts : List Trn) (t : Trn) (l : List Tk) : runW l (ts ++ [t]) = ((stepW (runW l ts).1 t).1, (runW l ts).2 ++ [(stepW (runW l ts).1 t).2]) := by
  rw [runW_append]
  rfl
theorem GoodR_at {l : List Tk} {ts : List Trn} (h : GoodR l ts) (i : Nat) (hi : i < ts.length) : GoodT (runW l (ts.take i)).1 (rdTr ts i) := by
  have e : ts = ts.take (i + 1) ++ ts.drop (i + 1) := (List.take_append_drop _ _).symm
  rw [e, GoodR_append, take_snoc ts i hi, GoodR_append] at h
  exact h.1.2.1
theorem AnsAll.len {rs bs : List (Int × List Tk)} (h : AnsAll rs bs) : rs.length = bs.length := by
  induction h with
  | nil => rfl
  | cons _ _ ih => rw [List.length_cons, List.length_cons, ih]
theorem runW_alen : ∀ (ts : List Trn) (l : List Tk), (runW l ts).2.length = ts.length
  | [], l => rfl
  | t :: ts, l => by rw [runW]; show ((stepW l t).2 :: (runW (stepW l t).1 ts).2).length = _; rw [List.length_cons, List.length_cons, runW_alen ts]
def StepRel (N hb : Nat) (ex : Prop) (l : List Tk) (r : Int × List Tk) (base B ab : Nat) (wr wx : World) : Prop :=
  ∃ kd sv xs, wx.heap[ab]? = some (.cells #[.int .i64 kd, sv] 37 (0, 0)) ∧ Kd.R kT 39 wx base (fun _ => True) sv xs ∧ WheelAt N wx B hb ex l ∧ AnsEq (kd, xs) r ∧ ChW B wr wx
theorem StepRel.put {N hb : Nat} {ex : Prop} {l : List Tk} {base B ab : Nat} {wr w3 : World} {k0 k : Int} (hch : ChW B wr w3) (hans : w3.heap[ab]? = some (.cells #[.int .i64 k0, .slice none 0 0] 37 (0, 0))) (hab : wr.heap.size ≤ ab) (hB : B ≤ wr.heap.size) (hW : WheelAt N w3 B hb ex l) {r : Int × List Tk} (hr : r = (k, [])) :
    StepRel N hb ex l r base B ab wr (w3.setCell ⟨ab, 0, none⟩ (.int .i64 k)) := by
  have hg := grown_setCell w3 ab 0 (.int .i64 k)
  refine ⟨k, .slice none 0 0, [], Road.setCell_same_heap 0 _ hans, Kd.R_nil _ _ _ _ _, hW.keep (fun j o ho hk => (hg.block j (Array.getElem?_eq_some_iff.1 ho).1 (fun e => ?_)).trans ho), ?_, chW_new hch hg hab hB⟩
  · injection e with e
    subst e
    rw [hans] at ho
    injection ho with ho
    rw [← ho] at hk
    exact absurd hk (by simp [wm])
  · rw [hr]
    exact ⟨rfl, List.Perm.refl _⟩
def exT (ex : Prop) (ts : List Trn) : Prop := ex ∧ ∀ t ∈ ts, staysT t
set_option maxHeartbeats 40000000 in
set_option maxRecDepth 100000 in
theorem turn_calls (N hb : Nat) (ex : Prop) (l : List Tk) (ts : List Trn) (A : Option Addr) (c : Nat) (w0 w : World) (hC : Kd.C kTr w0 A ts.length ts) (hc : ts.length ≤ c) (hB : Below w0.heap.size w0 w) (hW : WheelAt N w w0.heap.size hb ex l) (hE : WLaid w0) (hG : GoodR l ts) (hN : N + ts.length < 1000000) (hl : l.length + ts.length < 1000000) :
    Calls Tryd.prog 19 #[.pointer (some ⟨hb, 0, none⟩), .slice A ts.length c] w fun en w' => ∃ v rs, en = .returned v ∧ WheelAt (N + ts.length) w' w0.heap.size hb (exT ex ts) (runW l ts).1 ∧ AnsAll rs (runW l ts).2 ∧ Kd.R kA 37 w' w.heap.size (fun _ => True) v rs ∧ Below w0.heap.size w0 w' := by
  have HA := Aside0.mk (And.intro hC (And.intro hc (And.intro hB (And.intro hW (And.intro hE (And.intro hG (And.intro hN hl)))))))
  clear hC hc hB hW hE hG hN hl
  go_enter Tryd.func19, Tryd.ntmps19
  go_wp2_with fail
  go_loopw [5, 6] (fun v5 v6 wr => ∃ (i : Nat) (rs : List (Int × List Tk)), v6 = .int .i64 (i : Int) ∧ Aside0 (i ≤ ts.length) ∧ Aside0 (WheelAt (N + i) wr w0.heap.size hb (exT ex (ts.take i)) (runW l (ts.take i)).1 ∧ AnsAll rs (runW l (ts.take i)).2 ∧ Kd.R kA 37 wr w.heap.size (fun _ => True) v5 rs ∧ Below w0.heap.size w0 wr ∧ w.heap.size ≤ wr.heap.size)) (fun _ v6 _ => Road.leftOf ts.length v6)
  case atStart =>
    obtain ⟨hC, hc, hB, hW, hE, hG, hN, hl⟩ := HA.out
    exact ⟨0, [], rfl, ⟨Nat.zero_le _⟩, ⟨hW.ex_mono (fun q => q.1), AnsAll.nil, Kd.R_nil _ _ _ _ _, hB, Nat.le_refl _⟩⟩
  case round =>
    obtain ⟨i, rs, rfl, HI, HS⟩ := hrel
    rcases Nat.lt_or_ge i ts.length with hi | hi
    · have i1 := eq_true (show (i : Int) < (ts.length : Int) by omega)
      have i2 := eq_true hi
      obtain ⟨ad, rfl, d0, d1, d2, d3, d4⟩ := at_Tr (Kd.C_below HA.out.1 HS.out.2.2.2.1) i hi
      obtain ⟨⟨op, sq, exx, nw, odd⟩, ht⟩ : ∃ t, t = rdTr ts i := ⟨_, rfl⟩
      rw [← ht] at d0 d1 d2 d3 d4
      clear hi
      go_upto_region 7 with fail
      obtain ⟨W2, hW2⟩ : ∃ W2, W2 = (wr.alloc (.cells #[.int .i64 op, .int .u64 sq, .int .i64 exx, .int .i64 nw, .bool odd] 34)).alloc (.cells #[.int .i64 0, .slice none 0 0] 37) := ⟨_, rfl⟩
      obtain ⟨ab, hab⟩ : ∃ ab, ab = wr.heap.size + 1 := ⟨_, rfl⟩
      obtain ⟨tb, htb⟩ : ∃ tb, tb = wr.heap.size := ⟨_, rfl⟩
      rw [← hW2, ← hab, ← htb]
      have s1 : (wr.alloc (.cells #[.int .i64 op, .int .u64 sq, .int .i64 exx, .int .i64 nw, .bool odd] 34)).heap.size = wr.heap.size + 1 := by simp
      have hb2 : Below wr.heap.size wr W2 := by rw [hW2]; exact below_alloc (below_alloc (Below.refl _ _) _) _
      have hans : W2.heap[ab]? = some (.cells #[.int .i64 0, .slice none 0 0] 37 (0, 0)) := by
        have := heap_alloc_new (wr.alloc (.cells #[.int .i64 op, .int .u64 sq, .int .i64 exx, .int .i64 nw, .bool odd] 34)) (.cells #[.int .i64 0, .slice none 0 0] 37)
        rw [s1, ← hab, ← hW2] at this
        exact this
      have htc : W2.heap[tb]? = some (.cells (cellsT op sq exx nw odd) 34 (0, 0)) := by
        rw [hW2, htb]
        exact (Below.heap_alloc _ _ _ (by rw [s1]; exact Nat.lt_succ_self _)).trans (heap_alloc_new wr _)
      have k0 : W2.cell? ⟨tb, 0, none⟩ = some (.int .i64 op) := (cell_of_row W2 tb 0 _ _ _ htc).trans rfl
      have k1 : W2.cell? ⟨tb, 1, none⟩ = some (.int .u64 sq) := (cell_of_row W2 tb 1 _ _ _ htc).trans rfl
      have k2 : W2.cell? ⟨tb, 2, none⟩ = some (.int .i64 exx) := (cell_of_row W2 tb 2 _ _ _ htc).trans rfl
      have k3 : W2.cell? ⟨tb, 3, none⟩ = some (.int .i64 nw) := (cell_of_row W2 tb 3 _ _ _ htc).trans rfl
      have z2 : W2.heap.size = wr.heap.size + 2 := by rw [hW2]; simp
      have hGT : GoodT (runW l (ts.take i)).1 (op, sq, exx, nw, odd) := by rw [ht]; exact GoodR_at HA.out.2.2.2.2.2.1 i (of_eq_true i2)
      have hlen := runW_len (ts.take i) l
      rw [List.length_take] at hlen
      have hBr : w0.heap.size ≤ wr.heap.size := HS.out.2.2.2.1.size
      obtain ⟨L1, hL1⟩ : ∃ L1, L1 = (runW l (ts.take i)).1 := ⟨_, rfl⟩
      obtain ⟨hW, hAn, hRo, hBl, hz⟩ := HS.out
      rw [← hL1] at hGT hlen hW
      have hW2' : WheelAt (N + i) W2 w0.heap.size hb (exT ex (ts.take i)) L1 := hW.keep (fun k o ho _ => (hb2.block k (Array.getElem?_eq_some_iff.1 ho).1).trans ho)
      have hch2 : ChW w0.heap.size wr W2 := ChW.of_below hb2
      have hE2 : WLaid W2 := HA.out.2.2.2.2.1.below (hBl.trans (hb2.mono hBr))
      have HW2 := Aside0.mk (And.intro hW2' (And.intro hch2 (And.intro hE2 (And.intro hans (And.intro htc (And.intro hGT (And.intro hlen (And.intro hBr (And.intro hab (And.intro htb z2))))))))))
      have HT := Aside0.mk ht
      have HL1 := Aside0.mk hL1
      clear hW hAn hRo hBl hz hW2' hch2 hE2 hans htc hGT hlen hBr hab htb hW2 s1 hb2 z2 ht hL1 d0 d1 d2 d3 d4
      go_upto_block 2 with fail
      go_cut [7, 8, 64] from 9 (fun v7 v8 v64 wx => v7 = .pointer (some ⟨tb, 0, none⟩) ∧ v8 = .pointer (some ⟨ab, 0, none⟩) ∧ v64 = undef ∧ Aside0 (StepRel (N + (i + 1)) hb (exT ex (ts.take (i + 1))) (stepW L1 (op, sq, exx, nw, odd)).1 (stepW L1 (op, sq, exx, nw, odd)).2 w.heap.size w0.heap.size ab wr wx))
      case first =>
        obtain ⟨hW2', hch2, hE2, hans, htc, hGT, hlen, hBr, hab, htb, z2⟩ := HW2.out
        have hB2 : w0.heap.size ≤ W2.heap.size := by rw [z2]; omega
        have hN2 : N + i < 1000000 := by have := HA.out.2.2.2.2.2.2.1; have := of_eq_true i2; omega
        have hL2 : L1.length < 1000000 := by have := HA.out.2.2.2.2.2.2.2; have := of_eq_true i2; omega
        have hex : exT ex (ts.take (i + 1)) → exT ex (ts.take i) := fun q => ⟨q.1, fun t ht => q.2 t (by rw [take_snoc ts i (of_eq_true i2)]; exact List.mem_append_left _ ht)⟩
        have hst : exT ex (ts.take (i + 1)) → staysT (op, sq, exx, nw, odd) := fun q => q.2 _ (by rw [take_snoc ts i (of_eq_true i2), HT.out]; exact List.mem_append_right _ List.mem_cons_self)
        have h4 : op = 0 ∨ op = 1 ∨ op = 2 ∨ op = 3 := by have := hGT.op; simp only at this; omega
        have hab' : wr.heap.size ≤ ab := by omega
        have HX := Aside0.mk (And.intro hex (And.intro hst (And.intro hab' (And.intro hB2 (And.intro hBr (And.intro hch2 hans))))))
        have HGT := Aside0.mk hGT
        have HWW := Aside0.mk (And.intro hW2' (And.intro hE2 (And.intro hN2 hL2)))
        have HCL := Aside0.mk (And.intro htc (And.intro htb (And.intro hab z2)))
        clear hW2' hch2 hE2 hans htc hGT hlen hBr hab htb z2 hB2 hN2 hL2 hex hst hab' HW2
        rcases h4 with rfl | rfl | rfl | rfl
        · go_wp2_with fail
          refine (add_at (N + i) w0.heap.size hb _ L1 sq exx W2 HWW.out.1 HX.out.2.2.2.1 HWW.out.2.2.1 HWW.out.2.2.2 HGT.out.sq HGT.out.ex (HGT.out.fresh rfl)).mono ?_
          rintro en w3 ⟨rfl, hW3, hc3⟩
          have ha3 : w3.heap[ab]? = some (.cells #[.int .i64 0, .slice none 0 0] 37 (0, 0)) := hc3.typ _ _ HX.out.2.2.2.2.2.2 rfl
          have ka : w3.cell? ⟨ab, 0, none⟩ = some (.int .i64 0) := (cell_of_row w3 ab 0 _ _ _ ha3).trans rfl
          have fa : w3.frozen? ⟨ab, 0, none⟩ = false := Road.frozen_of_heap ha3
          have H3 := Aside0.mk (And.intro hW3 (And.intro hc3 ha3))
          clear hW3 hc3 ha3
          go_wp2_with fail
          refine (one_nil w3).mono ?_
          rintro en w4 ⟨rfl, hw4⟩
          subst hw4
          go_wp2_with fail
          go_meet
          have e : stepW L1 (0, sq, exx, nw, odd) = ((sq, exx) :: L1, (0, [])) := if_pos rfl
          refine ⟨rfl, rfl, rfl, ⟨?_⟩⟩
          rw [e]
          exact StepRel.put (HX.out.2.2.2.2.2.1.trans H3.out.2.1) H3.out.2.2 HX.out.2.2.1 HX.out.2.2.2.2.1 (H3.out.1.ex_mono HX.out.1) rfl
        · rcases HGT.out.there (.inl rfl) with hm | hm
          · have HM := Aside0.mk hm
            clear hm
            go_wp2_with fail
            refine (rem_at (N + i) w0.heap.size hb _ L1 sq exx W2 HWW.out.1 HM.out).mono ?_
            rintro en w3 ⟨rfl, hW3, hc3⟩
            have ha3 : w3.heap[ab]? = some (.cells #[.int .i64 0, .slice none 0 0] 37 (0, 0)) := hc3.typ _ _ HX.out.2.2.2.2.2.2 rfl
            have ka : w3.cell? ⟨ab, 0, none⟩ = some (.int .i64 0) := (cell_of_row w3 ab 0 _ _ _ ha3).trans rfl
            have fa : w3.frozen? ⟨ab, 0, none⟩ = false := Road.frozen_of_heap ha3
            have H3 := Aside0.mk (And.intro hW3 (And.intro hc3 ha3))
            clear hW3 hc3 ha3
            go_wp2_with fail
            refine (one_nil w3).mono ?_
            rintro en w4 ⟨rfl, hw4⟩
            subst hw4
            go_wp2_with fail
            go_meet
            have e : stepW L1 (1, sq, exx, nw, odd) = (L1.erase (sq, exx), (0, [])) := (if_neg (show ¬ (1 : Int) = 0 by decide)).trans ((if_pos rfl).trans (if_pos HM.out))
            refine ⟨rfl, rfl, rfl, ⟨?_⟩⟩
            rw [e]
            exact StepRel.put (HX.out.2.2.2.2.2.1.trans H3.out.2.1) H3.out.2.2 HX.out.2.2.1 HX.out.2.2.2.2.1 ((H3.out.1.mono (by omega)).ex_mono (fun q => (HX.out.2.1 q).1 rfl)) rfl
          · have HM := Aside0.mk hm
            clear hm
            go_wp2_with fail
            refine (remm_at (N + i) w0.heap.size hb _ L1 sq exx W2 HWW.out.1 HWW.out.2.1 HGT.out.sq HGT.out.ex HM.out).mono ?_
            rintro en w3 ⟨v, rfl, ⟨et, ev, rfl⟩, hw3⟩
            subst hw3
            have ka : w3.cell? ⟨ab, 0, none⟩ = some (.int .i64 0) := (cell_of_row w3 ab 0 _ _ _ HX.out.2.2.2.2.2.2).trans rfl
            have fa : w3.frozen? ⟨ab, 0, none⟩ = false := Road.frozen_of_heap HX.out.2.2.2.2.2.2
            go_wp2_with fail
            refine (one_err et ev w3).mono ?_
            rintro en w4 ⟨rfl, hw4⟩
            subst hw4
            go_wp2_with fail
            go_meet
            have e : stepW L1 (1, sq, exx, nw, odd) = (L1, (1, [])) := (if_neg (show ¬ (1 : Int) = 0 by decide)).trans ((if_pos rfl).trans (if_neg (HM.out exx)))
            refine ⟨rfl, rfl, rfl, ⟨?_⟩⟩
            rw [e]
            exact StepRel.put HX.out.2.2.2.2.2.1 HX.out.2.2.2.2.2.2 HX.out.2.2.1 HX.out.2.2.2.2.1 ((HWW.out.1.mono (by omega)).ex_mono HX.out.1) rfl
        · rcases HGT.out.there (.inr rfl) with hm | hm
          · have HM := Aside0.mk hm
            clear hm
            go_wp2_with fail
            refine (upd_at (N + i) w0.heap.size hb _ L1 sq exx nw W2 HWW.out.1 HX.out.2.2.2.1 HWW.out.2.2.1 HM.out HGT.out.nw).mono ?_
            rintro en w3 ⟨rfl, hW3, hc3⟩
            have ha3 : w3.heap[ab]? = some (.cells #[.int .i64 0, .slice none 0 0] 37 (0, 0)) := hc3.typ _ _ HX.out.2.2.2.2.2.2 rfl
            have ka : w3.cell? ⟨ab, 0, none⟩ = some (.int .i64 0) := (cell_of_row w3 ab 0 _ _ _ ha3).trans rfl
            have fa : w3.frozen? ⟨ab, 0, none⟩ = false := Road.frozen_of_heap ha3
            have H3 := Aside0.mk (And.intro hW3 (And.intro hc3 ha3))
            clear hW3 hc3 ha3
            go_wp2_with fail
            refine (one_nil w3).mono ?_
            rintro en w4 ⟨rfl, hw4⟩
            subst hw4
            go_wp2_with fail
            go_meet
            have e : stepW L1 (2, sq, exx, nw, odd) = ((sq, nw) :: L1.erase (sq, exx), (0, [])) := (if_neg (show ¬ (2 : Int) = 0 by decide)).trans ((if_neg (show ¬ (2 : Int) = 1 by decide)).trans ((if_pos rfl).trans (if_pos HM.out)))
            refine ⟨rfl, rfl, rfl, ⟨?_⟩⟩
            rw [e]
            exact StepRel.put (HX.out.2.2.2.2.2.1.trans H3.out.2.1) H3.out.2.2 HX.out.2.2.1 HX.out.2.2.2.2.1 (H3.out.1.ex_mono (fun q => (HX.out.2.1 q).2 rfl)) rfl
          · have HM := Aside0.mk hm
            clear hm
            go_wp2_with fail
            refine (updm_at (N + i) w0.heap.size hb _ L1 sq exx nw W2 HWW.out.1 HWW.out.2.1 HGT.out.sq HGT.out.ex HM.out).mono ?_
            rintro en w3 ⟨v, rfl, ⟨et, ev, rfl⟩, hw3⟩
            subst hw3
            have ka : w3.cell? ⟨ab, 0, none⟩ = some (.int .i64 0) := (cell_of_row w3 ab 0 _ _ _ HX.out.2.2.2.2.2.2).trans rfl
            have fa : w3.frozen? ⟨ab, 0, none⟩ = false := Road.frozen_of_heap HX.out.2.2.2.2.2.2
            go_wp2_with fail
            refine (one_err et ev w3).mono ?_
            rintro en w4 ⟨rfl, hw4⟩
            subst hw4
            go_wp2_with fail
            go_meet
            have e : stepW L1 (2, sq, exx, nw, odd) = (L1, (1, [])) := (if_neg (show ¬ (2 : Int) = 0 by decide)).trans ((if_neg (show ¬ (2 : Int) = 1 by decide)).trans ((if_pos rfl).trans (if_neg (HM.out exx))))
            refine ⟨rfl, rfl, rfl, ⟨?_⟩⟩
            rw [e]
            exact StepRel.put HX.out.2.2.2.2.2.1 HX.out.2.2.2.2.2.2 HX.out.2.2.1 HX.out.2.2.2.2.1 ((HWW.out.1.mono (by omega)).ex_mono HX.out.1) rfl
        · go_wp2_with fail
          refine (expAt_calls (N + i) w0.heap.size hb _ L1 W2.heap.size ab tb 0 3 sq exx nw odd exx W2 HWW.out.1 HX.out.2.2.2.1 (Nat.le_trans HX.out.2.2.2.2.1 HX.out.2.2.1) (Nat.le_refl _) ?_).mono ?_
          · obtain ⟨htc, htb, hab, z2⟩ := HCL.out
            exact ⟨Nat.le_refl _, by omega, by omega, by omega, htc, _, HX.out.2.2.2.2.2.2, Kd.R_nil _ _ _ _ _⟩
          rintro en w3 ⟨rfl, xs, hW3, hp3, hC3, hE3⟩
          have H3 := Aside0.mk (And.intro hW3 (And.intro hp3 (And.intro hC3 hE3)))
          clear hW3 hp3 hC3 hE3
          go_wp2_with fail
          go_meet
          have e : stepW L1 (3, sq, exx, nw, odd) = (stayL exx odd L1, (0, dueL exx L1)) := (if_neg (show ¬ (3 : Int) = 0 by decide)).trans ((if_neg (show ¬ (3 : Int) = 1 by decide)).trans (if_neg (show ¬ (3 : Int) = 2 by decide)))
          refine ⟨rfl, rfl, rfl, ⟨?_⟩⟩
          rw [e]
          obtain ⟨hW3, hp3, hC3, hE3⟩ := H3.out
          obtain ⟨htc, htb, hab, z2⟩ := HCL.out
          obtain ⟨hex, hst, hab', hB2, hBr, hch2, hans⟩ := HX.out
          obtain ⟨sv, hsv, hR⟩ := hC3.ans
          refine ⟨0, sv, xs, hsv, Kd.R_mono (Kd.R_lower hR (by have := HS.out.2.2.2.2; omega)) (fun _ _ => trivial), (hW3.mono (by omega)).ex_mono hex, ⟨rfl, hp3⟩, ⟨hE3.os.trans hch2.os, hE3.tape.trans hch2.tape, hE3.output.trans hch2.output, Nat.le_trans hch2.size hE3.size, fun k hk hs => (hE3.low k hk (Nat.lt_of_lt_of_le hs hch2.size)).trans (hch2.low k hk hs), fun k o ho hk => ?_⟩⟩
          have hlt := (Array.getElem?_eq_some_iff.1 ho).1
          exact hE3.typ k o (hch2.typ k o ho hk) hk (by omega) (by omega)
      case rest =>
        obtain ⟨rfl, rfl, rfl, HR⟩ := hcut
        obtain ⟨kd, sv, xs, hans, hRx, hW, hAE, hch⟩ := HR.out
        obtain ⟨A1, c1, hsv⟩ := Kd.R_slice hRx
        subst hsv
        obtain ⟨-, hAn, hRo, hBl, hz⟩ := HS.out
        have hRo' := RA_keep hRo hch.typ
        have hRx' : Kd.R kT 39 wc w.heap.size (fun k => some k ≠ u5.ownBlock) (.slice A1 xs.length c1) xs := by
          refine Kd.R_mono (Kd.R_bound hRx) (fun k hk e => ?_)
          obtain ⟨_, _, _, q, hq, cells, hc'⟩ := hk
          have : q = 39 := by simpa [kT, Kd.pair, Kd.int, Kd.scalar] using hq
          obtain ⟨inner, hown⟩ := Kd.R_own hRo'
          obtain ⟨cells2, hc2⟩ := own_typed hown k e.symm
          rw [hc2, this] at hc'
          injection hc' with hc'
          injection hc' with _ hc'
          exact absurd hc' (by decide)
        have ka : wc.cell? ⟨ab, 0, none⟩ = some (.int .i64 kd) := (cell_of_row wc ab 0 _ _ _ hans).trans rfl
        have kb : wc.cell? ⟨ab, 1, none⟩ = some (.slice A1 xs.length c1) := (cell_of_row wc ab 1 _ _ _ hans).trans rfl
        have hrl : rs.length = i := by rw [hAn.len, runW_alen, List.length_take]; have := of_eq_true i2; omega
        have hbs : w.heap.size ≤ wc.heap.size := Nat.le_trans hz hch.size
        have hll : (rs.length + 1) * 32 ≤ 140737488355328 := by have := HA.out.2.2.2.2.2.2.2; have := of_eq_true i2; omega
        have HF := Aside0.mk (And.intro hW (And.intro hAE (And.intro hch (And.intro hAn (And.intro hBl (And.intro hbs hRo'))))))
        have wi : wrap64 ((i : Int) + 1) = ((i + 1 : Nat) : Int) := Road.wrap_nat i (by have := HA.out.2.2.2.2.2.2.2; have := of_eq_true i2; omega)
        have HWI := Aside0.mk wi
        clear wi hW hAE hch hAn hBl hz hRo hRx hrl hans
        go_wp2_with (first | ((with_reducible refine gate_builtin (b := .append) (xs := #[.tmp 60, .tmp 62]) rfl ?_); at_builtin; refine Kd.R_append kA (w0 := wc) w.heap.size rfl (.tmp 60) (.tmp 62) 26 37 (.agg #[(.int .i64 0), (.slice none 0 0)]) 32 rfl Tryd.underlying26 infoA rfl (by decide) (by decide) u5 rs (kd, xs) [.int .i64 kd, .slice A1 xs.length c1] (fun _ => True) (fun k => some k ≠ u5.ownBlock) rfl rfl (kA_mkM hRx') (fun k hk => ⟨trivial, hk⟩) (fun _ _ => trivial) hRo' (Below.refl _ _) hbs hll ?_; intro v1 w1 ho hb1 hg hat; have H1 := Aside0.mk (And.intro ho (And.intro hb1 hg)); clear ho hb1 hg hat) | go_in)
        go_roundw
        case rel =>
          obtain ⟨hW, hAE, hch, hAn, hBl, hbs, hRo'⟩ := HF.out
          obtain ⟨ho, hb1, hg⟩ := H1.out
          have e1 := take_snoc ts i (of_eq_true i2)
          have e2 : stepW (runW l (ts.take i)).1 (rdTr ts i) = stepW L1 (op, sq, exx, nw, odd) := by rw [← HL1.out, ← HT.out]
          have hb0 : Below w0.heap.size w0 wc := ⟨hch.os.trans hBl.os, hch.tape.trans hBl.tape, hch.output.trans hBl.output, Nat.le_trans hBl.size hch.size, fun k hk => (hch.low k hk (Nat.lt_of_lt_of_le hk hBl.size)).trans (hBl.block k hk)⟩
          refine ⟨i + 1, rs ++ [(kd, xs)], congrArg (Value.int .i64) HWI.out, ⟨of_eq_true i2⟩, ⟨?_, ?_, ho, ?_, Nat.le_trans hbs hb1.size⟩⟩
          · have e3 : (runW l (ts.take (i + 1))).1 = (stepW L1 (op, sq, exx, nw, odd)).1 := by rw [e1, runW_snoc, e2]
            rw [e3]
            refine hW.keep (fun k o ho' hk => (hg.block k (Array.getElem?_eq_some_iff.1 ho').1 (fun e => ?_)).trans ho')
            obtain ⟨inner, hown⟩ := Kd.R_own hRo'
            obtain ⟨cells, hc'⟩ := own_typed hown k e.symm
            rw [hc'] at ho'
            injection ho' with ho'
            rw [← ho'] at hk
            exact absurd hk (by simp [wm])
          · have e3 : (runW l (ts.take (i + 1))).2 = (runW l (ts.take i)).2 ++ [(stepW L1 (op, sq, exx, nw, odd)).2] := by rw [e1, runW_snoc, e2]
            rw [e3]
            exact hAn.snoc hAE
          · exact hb0.trans (hb1.mono HA.out.2.2.1.size)
        case measure => rw [HWI.out]; exact Road.leftOf_lt (of_eq_true i2)
    · have i1 := eq_false (show ¬ (i : Int) < (ts.length : Int) by omega)
      have i2 := eq_false (show ¬ i < ts.length by omega)
      go_wp2_with fail
      go_ret
      have hi' : i = ts.length := by have := HI.out; omega
      obtain ⟨h1, h2, h3, h4, h5⟩ := HS.out
      rw [hi', List.take_length] at h1 h2
      exact ⟨_, rs, rfl, h1, h2, h3, h4⟩
/-! ### impl.WheelRun, impl.WheelNext -/
theorem wheel_head {N B hb : Nat} {w : World} {ex : Prop} {l : List Tk} (h : WheelAt N w B hb ex l) : ∃ a lo, w.heap[hb]? = some (.cells #[a, .int .i64 lo, .int .u64 (l.length : Int)] 61 (0, 0)) ∧ (∀ y ∈ l, lo ≤ y.2) ∧ lo ≤ mxT ∧ l.length ≤ 1000000 ∧ (ex → (l = [] ∧ lo = mxT) ∨ ∃ y ∈ l, y.2 = lo) := by
  obtain ⟨wb, lo, sl, hM, hL⟩ := h
  refine ⟨_, lo, hM.hd, fun y hy => ?_, hL.loM, hL.len, fun q => (hL.att q).2⟩
  cases hs : sl (pos y.2) with
  | none => exact absurd rfl (hL.none _ (pos_lt _) hs y hy)
  | some s =>
    obtain ⟨a, _, c⟩ := hL.low _ (pos_lt _) s hs
    exact Int.le_trans a (c y hy rfl)
theorem wheel_all {N B hb : Nat} {w : World} {ex : Prop} {l : List Tk} (h : WheelAt N w B hb ex l) : (∀ y ∈ l, wfU y.1 ∧ 0 ≤ y.2 ∧ y.2 ≤ 1152921504606846976) ∧ (l.map (·.1)).Nodup := by
  obtain ⟨wb, lo, sl, hM, hL⟩ := h
  exact ⟨hL.all, hL.nd⟩
theorem exT_all {ts : List Trn} (h : ∀ t ∈ ts, staysT t) : exT True ts := ⟨trivial, h⟩
theorem R_any {α : Type} {d : Kd α} {e : Nat} {w : World} {base base' : Nat} {v : Value} {xs : List α} (h : Kd.R d e w base (fun _ => True) v xs) (hb : base' ≤ base) : Kd.R d e w base' (fun _ => True) v xs := Kd.R_lower h hb
set_option maxRecDepth 100000 in
theorem run_calls (ts : List Trn) (A : Option Addr) (c : Nat) (w : World) (hC : Kd.C kTr w A ts.length ts) (hc : ts.length ≤ c) (hE : WLaid w) (hG : GoodR [] ts) (hN : ts.length < 1000000) :
    Calls Tryd.prog 9 #[.slice A ts.length c] w fun en w' => ∃ v rs, en = .returned (.tuple #[v, .int .i64 ((runW [] ts).1.length : Int)]) ∧ AnsAll rs (runW [] ts).2 ∧ Kd.R kA 37 w' w.heap.size (fun _ => True) v rs ∧ Below w.heap.size w w' ∧ (((runW [] ts).1.map (·.1)).Nodup ∧ (exT True ts → True)) := by
  obtain ⟨n, hn⟩ : ∃ n, n = (runW [] ts).1.length := ⟨_, rfl⟩
  rw [← hn]
  have HNN := Aside0.mk hn
  clear hn
  have HN := Aside0.mk (new_calls w)
  have hT : ∀ w1, Below w.heap.size w w1 → WheelAt 0 w1 w.heap.size (w.heap.size + 1) True [] → _ := fun w1 h1 h2 => turn_calls 0 (w.heap.size + 1) True [] ts A c w w1 hC hc h1 h2 hE hG (by omega) (by simp only [List.length_nil]; omega)
  have HT := Aside0.mk hT
  clear hC hc hE hG hN hT
  go_enter Tryd.func9, Tryd.ntmps9
  go_wp2_with fail
  refine HN.out.mono ?_
  rintro en w1 ⟨rfl, h1, b1⟩
  have H1 := Aside0.mk (And.intro h1 b1)
  clear h1 b1
  go_wp2_with fail
  refine (HT.out w1 H1.out.2 H1.out.1).mono ?_
  rintro en w2 ⟨v, rs, rfl, h2, a2, r2, b2⟩
  obtain ⟨A2, c2, hv⟩ := Kd.R_slice r2
  obtain ⟨a, lo, hd, -, -, hlen, -⟩ := wheel_head h2
  have H2 := Aside0.mk (And.intro a2 (And.intro (R_any r2 H1.out.2.size) (And.intro b2 (wheel_all h2).2)))
  have hcn := count_calls w2 (w.heap.size + 1) a (.int .i64 lo) (.int .u64 ((runW [] ts).1.length : Int)) hd
  rw [← HNN.out] at hlen hcn
  have HC := Aside0.mk hcn
  have e1 : IntKind.i64.wrap (n : Int) = (n : Int) := Road.wi64 _ _ rfl (by omega) (by omega)
  have e2 : wrap64 (n : Int) = (n : Int) := Road.w64 _ _ rfl (by omega) (by omega)
  clear h2 a2 r2 b2 hd hlen hcn
  subst hv
  go_wp2_with fail
  refine HC.out.mono ?_
  rintro en w3 ⟨rfl, hw3⟩
  subst hw3
  go_wp2_with fail
  refine bodyPost_ret (results_tmp2 rfl _ _ _) rfl ?_
  exact ⟨_, rs, rfl, H2.out.1, H2.out.2.1, H2.out.2.2.1, H2.out.2.2.2, fun _ => trivial⟩
set_option maxRecDepth 100000 in
theorem getNext_calls (w : World) (hb : Nat) (a c : Value) (lo before : Int) (h : w.heap[hb]? = some (.cells #[a, .int .i64 lo, c] 61 (0, 0))) : Calls Tryd.prog 22 #[.pointer (some ⟨hb, 0, none⟩), .int .i64 before] w fun e w' => e = .returned (.int .i64 (if lo < before then lo else mxT)) ∧ w' = w := by
  have c1 : w.cell? ⟨hb, 1, none⟩ = some (.int .i64 lo) := (cell_of_row w hb 1 _ _ _ h).trans rfl
  obtain ⟨z, hz⟩ : ∃ z, z = (if lo < before then lo else mxT) := ⟨_, rfl⟩
  rw [← hz]
  have HZ := Aside0.mk hz
  clear h hz
  by_cases hl : lo < before
  · have q1 := eq_true hl
    have q2 : decide (lo < before) = true := decide_eq_true hl
    have HE := Aside0.mk (show lo = z by rw [HZ.out, if_pos hl])
    clear hl
    go_enter Tryd.func22, Tryd.ntmps22
    go_wp2_with fail
    go_ret
    exact ⟨congrArg (fun q => Ending.returned (.int .i64 q)) HE.out, rfl⟩
  · have q1 := eq_false hl
    have q2 : decide (lo < before) = false := decide_eq_false hl
    have HE := Aside0.mk (show mxT = z by rw [HZ.out, if_neg hl])
    clear hl
    go_enter Tryd.func22, Tryd.ntmps22
    go_wp2_with fail
    go_ret
    exact ⟨congrArg (fun q => Ending.returned (.int .i64 q)) HE.out, rfl⟩
/-- The least time, or none. -/
def LeastOf (l : List Tk) (lo : Int) : Prop := (l = [] ∧ lo = mxT) ∨ ((∃ y ∈ l, y.2 = lo) ∧ ∀ y ∈ l, lo ≤ y.2)
set_option maxRecDepth 100000 in
theorem next_calls (ts : List Trn) (before : Int) (A : Option Addr) (c : Nat) (w : World) (hC : Kd.C kTr w A ts.length ts) (hc : ts.length ≤ c) (hE : WLaid w) (hG : GoodR [] ts) (hN : ts.length < 1000000) (hS : ∀ t ∈ ts, staysT t) :
    Calls Tryd.prog 12 #[.slice A ts.length c, .int .i64 before] w fun en w' => (∃ lo, en = .returned (.int .i64 (if lo < before then lo else mxT)) ∧ LeastOf (runW [] ts).1 lo) ∧ Below w.heap.size w w' := by
  have HN := Aside0.mk (new_calls w)
  have hT : ∀ w1, Below w.heap.size w w1 → WheelAt 0 w1 w.heap.size (w.heap.size + 1) True [] → _ := fun w1 h1 h2 => turn_calls 0 (w.heap.size + 1) True [] ts A c w w1 hC hc h1 h2 hE hG (by omega) (by simp only [List.length_nil]; omega)
  have HT := Aside0.mk (And.intro hT hS)
  clear hC hc hE hG hN hT hS
  go_enter Tryd.func12, Tryd.ntmps12
  go_wp2_with fail
  refine HN.out.mono ?_
  rintro en w1 ⟨rfl, h1, b1⟩
  have H1 := Aside0.mk (And.intro h1 b1)
  clear h1 b1
  go_wp2_with fail
  refine (HT.out.1 w1 H1.out.2 H1.out.1).mono ?_
  rintro en w2 ⟨v, rs, rfl, h2, a2, r2, b2⟩
  obtain ⟨a, lo, hd, hle, -, -, hat⟩ := wheel_head h2
  have H2 := Aside0.mk (And.intro hle (And.intro hat b2))
  have HC := Aside0.mk (getNext_calls w2 (w.heap.size + 1) a _ lo before hd)
  clear h2 a2 r2 b2 hd hle hat
  go_wp2_with fail
  refine HC.out.mono ?_
  rintro en w3 ⟨rfl, hw3⟩
  subst hw3
  have HR := Aside0.mk (show ∃ lo1, Ending.returned (.int .i64 (if lo < before then lo else mxT)) = .returned (.int .i64 (if lo1 < before then lo1 else mxT)) ∧ LeastOf (runW [] ts).1 lo1 from ⟨lo, rfl, (H2.out.2.1 (exT_all HT.out.2)).imp id (fun q => ⟨q, H2.out.1⟩)⟩)
  obtain ⟨z, hz⟩ : ∃ z, z = (if lo < before then lo else mxT) := ⟨_, rfl⟩
  rw [← hz] at HR ⊢
  clear hz
  go_wp2_with fail
  go_ret
  exact ⟨HR.out, H2.out.2.2⟩

end Go.Proofs.YtnkjlfadegjjoaaDoor.WhC
