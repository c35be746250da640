/- WALKS: a set that is cloned. -/
import Derived.Test.YtjhdnapgdajllaaDoorProg
import Derived.Below
import Derived.Deep.Draws
import Derived.Deep.AppendLies
import Derived.Maps.AppendAt
import Derived.OwnWalk
import Derived.Laws.BytesArg
import Derived.Laws.MakeOwn
import Derived.Laws.OwnMore
import Derived.Deep.OwnRows
import Derived.Tactics
import Derived.Lib.ConvBytes
import Derived.Laws.Slices
import Derived.WalkKit
import Derived.KernelRfl
import Derived.RowKit3
import Derived.Deep.LoopGhost
import Derived.Deep.QuietTactic
import Derived.BigQuiet
import Derived.WideLaws
import Derived.Deep.DeepCutAuto
import Derived.Deep.CutBlock
import Derived.Deep.RegionHeld3
import Derived.Laws.Rows
import Derived.Lib.AppendStr
import Derived.ArgAppend
import Derived.Laws.IdiomCopy
import Derived.OrdersHeld
import Derived.Laws.BitsLemmas
import Derived.RowKit
import Derived.Test.YtjhdnapgdajllaaDoorWWords
import Derived.Test.YtjhdnapgdajllaaDoorWLast
import Derived.Test.YtjhdnapgdajllaaDoorWTab
import Derived.Test.YtjhdnapgdajllaaDoorWFour
import Derived.Test.YtjhdnapgdajllaaDoorWQPut
import Derived.Test.YtjhdnapgdajllaaDoorWApart
import Derived.Test.YtjhdnapgdajllaaDoorWArr
import Derived.Test.YtjhdnapgdajllaaDoorWZeros
import Derived.Test.YtjhdnapgdajllaaDoorWFoot
import Derived.Test.YtjhdnapgdajllaaDoorWKept
import Derived.Test.YtjhdnapgdajllaaDoorWShare
import Derived.Test.YtjhdnapgdajllaaDoorWN
import Derived.Test.YtjhdnapgdajllaaDoorWFootNe
import Derived.Test.YtjhdnapgdajllaaDoorWAt
import Derived.Test.YtjhdnapgdajllaaDoorWEqStruct
import Derived.Test.YtjhdnapgdajllaaDoorWRepsOne
import Derived.Test.YtjhdnapgdajllaaDoorWInv
import Derived.Test.YtjhdnapgdajllaaDoorWInvWords
import Derived.Test.YtjhdnapgdajllaaDoorWGuard
import Derived.Test.YtjhdnapgdajllaaDoorWNEv
import Derived.Test.YtjhdnapgdajllaaDoorWMore
import Derived.Test.YtjhdnapgdajllaaDoorSetSpecW
namespace Go.Proofs.YtjhdnapgdajllaaDoor.SetCloneW
open Go.RowKit Go.Proofs.YtjhdnapgdajllaaDoorW.PrintWords Go.Proofs.YtjhdnapgdajllaaDoorW.PrintLast Go.Proofs.YtjhdnapgdajllaaDoorW.PrintMore
attribute [local go_sem] max2_int min2_int max_two min_two max_three min_three max_four min_four   -- for this text's walks alone
set_option linter.unusedVariables false
set_option linter.unusedSimpArgs false



open _root_.Go.Proofs.YtjhdnapgdajllaaDoor.SetW _root_.Go.Proofs.YtjhdnapgdajllaaDoor.SetSpecW
theorem box_ {P : Program} {ops : Array Oper} {oi : Oper} {N : Tmp} {v : Value} {a : Act} {w w1 : World} {K : Act → World → Prop} {Q : Exit → Act → World → Prop} (hw : Region.wanted oi (yielded ops a.tmps) = true) (hN : oi.dst = some N) (hrun : (execOp a.eval oi).run P w = .ok (.value v) w1)
    (h : K (a.put (some N) v) w1) : if Region.wanted oi (yielded ops a.tmps) = true then Oper.wp P oi a w K Q else K (a.put (some N) undef) w := by
  rw [if_pos hw]
  unfold Oper.wp
  rw [hrun]
  show K (a.put oi.dst v) w1
  rw [hN]
  exact h
theorem exec_load_mid {P : Program} {oi : Oper} {a : Act} {w : World} (ty : TypeId) (x : Operand) (ho : oi.op = .load ty x) (b o : Nat) (hx : a.eval x = .pointer (some ⟨b, o, none⟩)) (cs : List Value) (d : TypeDesc) (hc : w.rangeAt b o cs)
    (hu : P.underlying ty = some d) (hd : d.isRow = true) (hi : (P.info? ty).map (·.size) = some cs.length) : (execOp a.eval oi).run P w = .ok (.value (.agg cs.toArray)) w := by
  unfold execOp
  simp only [ho, hx, Instr.loadAt, Instr.sureAddr, Sem.run_bind, Sem.run_pure, Result.andThen_ok, run_loadVar_mid w b o ty cs d hc hu hd hi]
theorem len32 {bs : List Nat} (h : bs.length = 32) : ∃ z0 z1 z2 z3 z4 z5 z6 z7 z8 z9 z10 z11 z12 z13 z14 z15 z16 z17 z18 z19 z20 z21 z22 z23 z24 z25 z26 z27 z28 z29 z30 z31, bs = [z0, z1, z2, z3, z4, z5, z6, z7, z8, z9, z10, z11, z12, z13, z14, z15, z16, z17, z18, z19, z20, z21, z22, z23, z24, z25, z26, z27, z28, z29, z30, z31] := by
  have e : bs = (List.range 32).map (fun i => bs.getD i 0) := by
    apply List.ext_getElem?
    intro i
    rcases Nat.lt_or_ge i 32 with c | c
    · rw [List.getElem?_map, List.getElem?_range c, List.getElem?_eq_getElem (by omega)]
      simp [List.getD_eq_getElem?_getD, List.getElem?_eq_getElem (show i < bs.length by omega)]
    · rw [List.getElem?_eq_none (by omega), List.getElem?_eq_none (by rw [List.length_map, List.length_range]; omega)]
  exact ⟨_, _, _, _, _, _, _, _, _, _, _, _, _, _, _, _, _, _, _, _, _, _, _, _, _, _, _, _, _, _, _, _, e⟩
theorem chg_below' {w w' : World} (h : Below w.heap.size w w') : Chg [] w w' := ⟨h.os, h.tape, h.output, h.size, fun k hk _ => h.block k hk⟩
theorem er_good : ∀ t : Tr, (er t).good = t.good
  | .nil => rfl
  | .node g b bs l r h => by rw [er, Tr.good, Tr.good, er_good l, er_good r, er_mH 0 b bs l r h g h]
theorem er_ok {lo hi : Nat} : ∀ t : Tr, (er t).ok lo hi = t.ok lo hi
  | .nil => rfl
  | .node g b bs l r h => by rw [er, Tr.ok, Tr.ok, er_ok l, er_ok r]
theorem Rep_er {t t' : Tr} {L : List Nat} (h : Rep t L) (hs : er t' = er t) : Rep t' L :=
  ⟨by rw [← er_good, hs, er_good]; exact h.good, by rw [← er_ok, hs, er_ok]; exact h.ok, by rw [← er_nums, hs, er_nums]; exact h.nums⟩
theorem er_er : ∀ t : Tr, er (er t) = er t
  | .nil => rfl
  | .node g b bs l r h => by rw [er, er, er_er l, er_er r]
set_option maxHeartbeats 16000000 in
set_option maxRecDepth 100000 in
theorem clone_calls : ∀ (t : Tr) (TB o : Nat) (cs : Array Value) (T : Nat) (w : World), t.at w → w.heap[TB]? = some (.cells cs T (0, 0)) → cs[o]? = some (.pointer none) → TB ∉ t.bl →
    Calls Tryd.prog 50 #[t.p, .pointer (some ⟨TB, o, none⟩)] w fun e w' => e = .returned (.tuple #[]) ∧ ∃ t', t'.at w' ∧ er t' = er t ∧ t'.bl.Nodup ∧ (∀ x ∈ t'.bl, w.heap.size ≤ x) ∧ w'.heap[TB]? = some (.cells (cs.setIfInBounds o t'.p) T (0, 0)) ∧ Chg [TB] w w' := by
  intro t
  induction t with
  | nil =>
    intro TB o cs T w ha hT hc hn
    show Calls Tryd.prog 50 #[.pointer none, .pointer (some ⟨TB, o, none⟩)] w _
    have HT := Aside0.mk (And.intro hT hc)
    clear ha hT hc hn
    go_enter Tryd.func50, Tryd.ntmps50
    go_wp2_with fail
    refine bodyPost_ret (results_none rfl _ _ _) rfl ?_
    refine ⟨rfl, .nil, trivial, rfl, List.nodup_nil, fun x hx => absurd hx (by simp [Tr.bl]), ?_, Chg.refl _ _⟩
    rw [HT.out.1]
    have hto := (Array.getElem?_eq_some_iff.1 HT.out.2).1
    have e : cs.setIfInBounds o (Tr.nil).p = cs := by
      apply Array.ext_getElem?
      intro i
      rw [Array.getElem?_setIfInBounds]
      split
      · rename_i h; subst h; rw [HT.out.2]; first | rfl | (rw [if_pos hto]; rfl)
      · rfl
    rw [e]
  | node g b bs l r h0 ihl ihr =>
    intro TB o cs T w ha hT hc hn
    show Calls Tryd.prog 50 #[.pointer (some ⟨g, 0, none⟩), .pointer (some ⟨TB, o, none⟩)] w _
    obtain ⟨LL, hLL⟩ : ∃ LL, LL = bs.map (fun z : Nat => Value.int .u64 (z : Int)) := ⟨_, rfl⟩
    have hle : (Tryd.prog.info? 86).map (·.size) = some LL.length := by rw [hLL, List.length_map, ha.1]; kernel_rfl
    have HA := Aside0.mk (And.intro ha (And.intro hT (And.intro hc hn)))
    obtain ⟨z0, z1, z2, z3, z4, z5, z6, z7, z8, z9, z10, z11, z12, z13, z14, z15, z16, z17, z18, z19, z20, z21, z22, z23, z24, z25, z26, z27, z28, z29, z30, z31, hbs⟩ := len32 ha.1
    have hL2 := hLL
    rw [hbs] at hL2
    simp only [List.map_cons, List.map_nil] at hL2
    rw [hL2] at hle
    have HLD := Aside0.mk (And.intro (hLL.symm.trans hL2) hle)
    have HBS := Aside0.mk hbs
    clear hLL hL2 hle
    clear ha hT hc hn hbs
    go_enter Tryd.func50, Tryd.ntmps50
    go_wp2_with fail
    refine start_ (n := 15) (S := fun w' => w'.heap[g]? = some (.cells (cellsN b bs l.p r.p h0) 88 (0, 0))) (ds := []) #[false, false, false, false, false, false, false, false, false, false, false, false, false, false, false] (by kernel_rfl) rfl rfl HA.out.1.2.1 (fun hHeld => ?_)
    refine pure_ (i := 0) (N := some 7) (v := ?_) (a' := ?_) #[true, false, false, false, false, false, false, false, false, false, false, false, false, false, false] rfl rfl (by kernel_rfl) (fun _ _ _ h => h) (Or.inl ⟨by rfl, ?_⟩) ?_ ?_
    rotate_left
    · intro w'
      go_simp
      with_reducible rfl
    rotate_left
    · simp only [Act.put, List.setIfInBounds_toArray, List.set_cons_zero, List.set_cons_succ, i64_w, i32_w]
      rfl
    refine pure_ (i := 1) (N := some 8) (v := ?_) (a' := ?_) #[true, true, false, false, false, false, false, false, false, false, false, false, false, false, false] rfl rfl (by kernel_rfl) (fun _ _ _ h => h) (Or.inl ⟨by rfl, ?_⟩) ?_ ?_
    rotate_left
    · intro w'
      go_simp
      with_reducible rfl
    rotate_left
    · simp only [Act.put, List.setIfInBounds_toArray, List.set_cons_zero, List.set_cons_succ, i64_w, i32_w]
      rfl
    refine pure_ (i := 2) (N := some 9) (v := ?_) (a' := ?_) #[true, true, true, false, false, false, false, false, false, false, false, false, false, false, false] rfl rfl (by kernel_rfl) (fun _ _ _ h => h) (Or.inl ⟨by rfl, ?_⟩) ?_ ?_
    rotate_left
    · intro w'
      go_simp
      with_reducible rfl
    rotate_left
    · simp only [Act.put, List.setIfInBounds_toArray, List.set_cons_zero, List.set_cons_succ, i64_w, i32_w]
      rfl
    refine take_ (i := 3) (N := some 10) (v := ?_) (a' := ?_) #[true, true, true, true, false, false, false, false, false, false, false, false, false, false, false] rfl rfl (by kernel_rfl) (fun _ _ _ h => h) (Or.inl ⟨by rfl, ?_⟩) hHeld ?_ ?_
    rotate_left
    · intro w' hS'
      have cb := nd_base hS'
      go_simp
      with_reducible rfl
    rotate_left
    · simp only [Act.put, List.setIfInBounds_toArray, List.set_cons_zero, List.set_cons_succ, i64_w, i32_w]
      rfl
    refine pure_ (i := 4) (N := some 11) (v := ?_) (a' := ?_) #[true, true, true, true, true, false, false, false, false, false, false, false, false, false, false] rfl rfl (by kernel_rfl) (fun _ _ _ h => h) (Or.inl ⟨by rfl, ?_⟩) ?_ ?_
    rotate_left
    · intro w'
      go_simp
      with_reducible rfl
    rotate_left
    · simp only [Act.put, List.setIfInBounds_toArray, List.set_cons_zero, List.set_cons_succ, i64_w, i32_w]
      rfl
    refine pure_ (i := 5) (N := some 12) (v := ?_) (a' := ?_) #[true, true, true, true, true, true, false, false, false, false, false, false, false, false, false] rfl rfl (by kernel_rfl) (fun _ _ _ h => h) (Or.inl ⟨by rfl, ?_⟩) ?_ ?_
    rotate_left
    · intro w'
      go_simp
      with_reducible rfl
    rotate_left
    · simp only [Act.put, List.setIfInBounds_toArray, List.set_cons_zero, List.set_cons_succ, i64_w, i32_w]
      rfl
    refine pure_ (i := 6) (N := some 13) (v := ?_) (a' := ?_) #[true, true, true, true, true, true, true, false, false, false, false, false, false, false, false] rfl rfl (by kernel_rfl) (fun _ _ _ h => h) (Or.inl ⟨by rfl, ?_⟩) ?_ ?_
    rotate_left
    · intro w'
      go_simp
      with_reducible rfl
    rotate_left
    · simp only [Act.put, List.setIfInBounds_toArray, List.set_cons_zero, List.set_cons_succ, i64_w, i32_w]
      rfl
    refine take_ (i := 7) (N := some 14) (v := ?_) (a' := ?_) #[true, true, true, true, true, true, true, true, false, false, false, false, false, false, false] rfl rfl (by kernel_rfl) (fun _ _ _ h => h) (Or.inl ⟨by rfl, ?_⟩) hHeld ?_ ?_
    rotate_left
    · intro w' hS'
      refine exec_load_mid 86 (.tmp 13) ?_ g 1 ?_ _ _ ?_ Tryd.underlying86 ?_ HLD.out.2
      · rfl
      · rfl
      · rw [← HLD.out.1]; exact range_bits HA.out.1.1 hS'
      · rfl
    rotate_left
    · simp only [Act.put, List.setIfInBounds_toArray, List.set_cons_zero, List.set_cons_succ, i64_w, i32_w]
      rfl
    refine pure_ (i := 8) (N := some 15) (v := ?_) (a' := ?_) #[true, true, true, true, true, true, true, true, true, false, false, false, false, false, false] rfl rfl (by kernel_rfl) (fun _ _ _ h => h) (Or.inl ⟨by rfl, ?_⟩) ?_ ?_
    rotate_left
    · intro w'
      go_simp
      with_reducible rfl
    rotate_left
    · simp only [Act.put, List.setIfInBounds_toArray, List.set_cons_zero, List.set_cons_succ, i64_w, i32_w]
      rfl
    refine pure_ (i := 9) (N := some 16) (v := ?_) (a' := ?_) #[true, true, true, true, true, true, true, true, true, true, false, false, false, false, false] rfl rfl (by kernel_rfl) (fun _ _ _ h => h) (Or.inl ⟨by rfl, ?_⟩) ?_ ?_
    rotate_left
    · intro w'
      go_simp
      with_reducible rfl
    rotate_left
    · simp only [Act.put, List.setIfInBounds_toArray, List.set_cons_zero, List.set_cons_succ, i64_w, i32_w]
      rfl
    refine pure_ (i := 10) (N := some 17) (v := ?_) (a' := ?_) #[true, true, true, true, true, true, true, true, true, true, true, false, false, false, false] rfl rfl (by kernel_rfl) (fun _ _ _ h => h) (Or.inl ⟨by rfl, ?_⟩) ?_ ?_
    rotate_left
    · intro w'
      go_simp
      with_reducible rfl
    rotate_left
    · simp only [Act.put, List.setIfInBounds_toArray, List.set_cons_zero, List.set_cons_succ, i64_w, i32_w]
      rfl
    refine take_ (i := 11) (N := some 18) (v := ?_) (a' := ?_) #[true, true, true, true, true, true, true, true, true, true, true, true, false, false, false] rfl rfl (by kernel_rfl) (fun _ _ _ h => h) (Or.inl ⟨by rfl, ?_⟩) hHeld ?_ ?_
    rotate_left
    · intro w' hS'
      have ch := nd_h hS' HA.out.1.1
      go_simp
      with_reducible rfl
    rotate_left
    · simp only [Act.put, List.setIfInBounds_toArray, List.set_cons_zero, List.set_cons_succ, i64_w, i32_w]
      rfl
    refine pure_ (i := 12) (N := some 19) (v := ?_) (a' := ?_) #[true, true, true, true, true, true, true, true, true, true, true, true, true, false, false] rfl rfl (by kernel_rfl) (fun _ _ _ h => h) (Or.inl ⟨by rfl, ?_⟩) ?_ ?_
    rotate_left
    · intro w'
      go_simp
      with_reducible rfl
    rotate_left
    · simp only [Act.put, List.setIfInBounds_toArray, List.set_cons_zero, List.set_cons_succ, i64_w, i32_w]
      rfl
    refine one_ (i := 13) (N := some 20) #[true, true, true, true, true, true, true, true, true, true, true, true, true, true, false] rfl rfl (by kernel_rfl) (by decide) (fun K hK => ?_)
    refine box_ (w1 := ?_) (v := ?_) (by rfl) rfl ?_ ?_
    rotate_left
    rotate_left
    · go_simp
      constructor <;> rfl
    refine hK.out _ _ (show ((w.alloc (.cells #[Value.int .u64 (b : Int), Value.int .u64 (z0 : Int), Value.int .u64 (z1 : Int), Value.int .u64 (z2 : Int), Value.int .u64 (z3 : Int), Value.int .u64 (z4 : Int), Value.int .u64 (z5 : Int), Value.int .u64 (z6 : Int), Value.int .u64 (z7 : Int), Value.int .u64 (z8 : Int), Value.int .u64 (z9 : Int), Value.int .u64 (z10 : Int), Value.int .u64 (z11 : Int), Value.int .u64 (z12 : Int), Value.int .u64 (z13 : Int), Value.int .u64 (z14 : Int), Value.int .u64 (z15 : Int), Value.int .u64 (z16 : Int), Value.int .u64 (z17 : Int), Value.int .u64 (z18 : Int), Value.int .u64 (z19 : Int), Value.int .u64 (z20 : Int), Value.int .u64 (z21 : Int), Value.int .u64 (z22 : Int), Value.int .u64 (z23 : Int), Value.int .u64 (z24 : Int), Value.int .u64 (z25 : Int), Value.int .u64 (z26 : Int), Value.int .u64 (z27 : Int), Value.int .u64 (z28 : Int), Value.int .u64 (z29 : Int), Value.int .u64 (z30 : Int), Value.int .u64 (z31 : Int), Value.pointer none, Value.pointer none, Value.int .i64 h0] 88 (0, 0))).drew).heap[g]? = some (.cells (cellsN b bs l.p r.p h0) 88 (0, 0)) from (Below.heap_alloc _ _ _ (Array.getElem?_eq_some_iff.1 HA.out.1.2.1).1).trans HA.out.1.2.1) (fun hHeld => ?_)
    clear hK K
    refine norm_ (a' := ?_) ?_ ?_
    rotate_left
    · show Act.put _ (some 20) _ = _
      simp only [Act.put, List.setIfInBounds_toArray, List.set_cons_zero, List.set_cons_succ, i64_w, i32_w]
      rfl
    refine pure_ (i := 14) (N := some 4) (v := ?_) (a' := ?_) #[true, true, true, true, true, true, true, true, true, true, true, true, true, true, true] rfl rfl (by kernel_rfl) (fun _ _ _ h => h) (Or.inl ⟨by rfl, ?_⟩) ?_ ?_
    rotate_left
    · intro w'
      go_simp
      with_reducible rfl
    rotate_left
    · simp only [Act.put, List.setIfInBounds_toArray, List.set_cons_zero, List.set_cons_succ, i64_w, i32_w]
      rfl
    refine done_ (by kernel_rfl) ?_
    generalize hW1 : (w.alloc (.cells #[Value.int .u64 (b : Int), Value.int .u64 (z0 : Int), Value.int .u64 (z1 : Int), Value.int .u64 (z2 : Int), Value.int .u64 (z3 : Int), Value.int .u64 (z4 : Int), Value.int .u64 (z5 : Int), Value.int .u64 (z6 : Int), Value.int .u64 (z7 : Int), Value.int .u64 (z8 : Int), Value.int .u64 (z9 : Int), Value.int .u64 (z10 : Int), Value.int .u64 (z11 : Int), Value.int .u64 (z12 : Int), Value.int .u64 (z13 : Int), Value.int .u64 (z14 : Int), Value.int .u64 (z15 : Int), Value.int .u64 (z16 : Int), Value.int .u64 (z17 : Int), Value.int .u64 (z18 : Int), Value.int .u64 (z19 : Int), Value.int .u64 (z20 : Int), Value.int .u64 (z21 : Int), Value.int .u64 (z22 : Int), Value.int .u64 (z23 : Int), Value.int .u64 (z24 : Int), Value.int .u64 (z25 : Int), Value.int .u64 (z26 : Int), Value.int .u64 (z27 : Int), Value.int .u64 (z28 : Int), Value.int .u64 (z29 : Int), Value.int .u64 (z30 : Int), Value.int .u64 (z31 : Int), Value.pointer none, Value.pointer none, Value.int .i64 h0] 88 (0, 0))).drew = W1
    have e1 : #[Value.int .u64 (b : Int), Value.int .u64 (z0 : Int), Value.int .u64 (z1 : Int), Value.int .u64 (z2 : Int), Value.int .u64 (z3 : Int), Value.int .u64 (z4 : Int), Value.int .u64 (z5 : Int), Value.int .u64 (z6 : Int), Value.int .u64 (z7 : Int), Value.int .u64 (z8 : Int), Value.int .u64 (z9 : Int), Value.int .u64 (z10 : Int), Value.int .u64 (z11 : Int), Value.int .u64 (z12 : Int), Value.int .u64 (z13 : Int), Value.int .u64 (z14 : Int), Value.int .u64 (z15 : Int), Value.int .u64 (z16 : Int), Value.int .u64 (z17 : Int), Value.int .u64 (z18 : Int), Value.int .u64 (z19 : Int), Value.int .u64 (z20 : Int), Value.int .u64 (z21 : Int), Value.int .u64 (z22 : Int), Value.int .u64 (z23 : Int), Value.int .u64 (z24 : Int), Value.int .u64 (z25 : Int), Value.int .u64 (z26 : Int), Value.int .u64 (z27 : Int), Value.int .u64 (z28 : Int), Value.int .u64 (z29 : Int), Value.int .u64 (z30 : Int), Value.int .u64 (z31 : Int), Value.pointer none, Value.pointer none, Value.int .i64 h0] = cellsN b bs (.pointer none) (.pointer none) h0 := by rw [HBS.out]; rfl
    rw [e1] at hW1
    have b1 : Below w.heap.size w W1 := by rw [← hW1]; exact pw_below_drewN (below_alloc (Below.refl _ _) _) 1
    have z1 : W1.heap.size = w.heap.size + 1 := by rw [← hW1]; simp [World.drew]
    have q1 : W1.heap[w.heap.size]? = some (.cells (cellsN b bs (.pointer none) (.pointer none) h0) 88 (0, 0)) := by rw [← hW1]; exact heap_alloc_new w _
    clear hW1 e1 hHeld
    obtain ⟨ha, hT, hc, hn⟩ := HA.out
    have htl : TB < w.heap.size := (Array.getElem?_eq_some_iff.1 hT).1
    have tT : W1.heap[TB]? = some (.cells cs T (0, 0)) := (b1.block TB htl).trans hT
    have kt : W1.cell? ⟨TB, o, none⟩ = some (.pointer none) := (cell_of_row W1 TB o _ _ _ tT).trans hc
    have ft : W1.frozen? ⟨TB, o, none⟩ = false := by simp [World.frozen?, tT]
    have E2 := setCell_eq_setRow W1 TB o _ T (0, 0) (.pointer (some ⟨w.heap.size, 0, none⟩)) tT
    have H1 := Aside0.mk (And.intro b1 (And.intro z1 (And.intro q1 (And.intro tT (And.intro htl E2)))))
    clear b1 z1 q1 ha hT hc hn htl tT E2
    go_wp2_with fail
    rw [H1.out.2.2.2.2.2]
    generalize hW2 : W1.setRow TB (cs.setIfInBounds o (.pointer (some ⟨w.heap.size, 0, none⟩))) = W2
    obtain ⟨b1, z1, q1, tT, htl, -⟩ := H1.out
    obtain ⟨ha, hT, hc, hn⟩ := HA.out
    have c2 : Chg [TB] W1 W2 := by rw [← hW2]; exact Chg.row _ _ _
    have z2 : W2.heap.size = w.heap.size + 1 := by rw [← hW2, setRow_size]; exact z1
    have q2 : W2.heap[w.heap.size]? = some (.cells (cellsN b bs (.pointer none) (.pointer none) h0) 88 (0, 0)) := by rw [← hW2, setRow_other _ _ _ _ (by omega)]; exact q1
    have t2 : W2.heap[TB]? = some (.cells (cs.setIfInBounds o (.pointer (some ⟨w.heap.size, 0, none⟩))) T (0, 0)) := by rw [← hW2]; exact setRow_heap _ _ _ _ _ _ tT
    have c02 : Chg [TB] w W2 := (chg_below' b1).trans c2 (fun x h => absurd h (by simp)) (fun x h _ => h)
    have a2 := at_keep c02 _ ha (fun x hx e => hn (List.mem_singleton.1 e ▸ hx))
    have HW2 := Aside0.mk (And.intro a2.2.1 (And.intro z2 (And.intro q2 (And.intro t2 (And.intro c02 (And.intro a2 htl))))))
    clear hW2 b1 z1 q1 tT htl ha hT hc hn c2 z2 q2 t2 c02 a2 kt ft H1
    have hcall := ihl w.heap.size 33 _ 88 W2.drew (at_keep (Chg_drew W2) l HW2.out.2.2.2.2.2.1.2.2.1 (by simp)) HW2.out.2.2.1 (cellsN_at HA.out.1.1 0) (fun hx => Nat.lt_irrefl _ (at_lt l HA.out.1.2.2.1 _ hx))
    have HC2 := Aside0.mk hcall
    clear hcall ihl
    go_wp2_with fail
    refine start_ (n := 8) (S := fun w' => w'.heap[g]? = some (.cells (cellsN b bs l.p r.p h0) 88 (0, 0))) (ds := [7]) #[false, false, false, false, false, false, false, false] (by kernel_rfl) rfl rfl HW2.out.1 (fun hHeld => ?_)
    refine pure_ (i := 0) (N := some 24) (v := ?_) (a' := ?_) #[true, false, false, false, false, false, false, false] rfl rfl (by kernel_rfl) (fun _ _ _ h => h) (Or.inl ⟨by rfl, ?_⟩) ?_ ?_
    rotate_left
    · intro w'
      go_simp
      with_reducible rfl
    rotate_left
    · simp only [Act.put, List.setIfInBounds_toArray, List.set_cons_zero, List.set_cons_succ, i64_w, i32_w]
      rfl
    refine pure_ (i := 1) (N := some 25) (v := ?_) (a' := ?_) #[true, true, false, false, false, false, false, false] rfl rfl (by kernel_rfl) (fun _ _ _ h => h) (Or.inl ⟨by rfl, ?_⟩) ?_ ?_
    rotate_left
    · intro w'
      go_simp
      with_reducible rfl
    rotate_left
    · simp only [Act.put, List.setIfInBounds_toArray, List.set_cons_zero, List.set_cons_succ, i64_w, i32_w]
      rfl
    refine pure_ (i := 2) (N := some 26) (v := ?_) (a' := ?_) #[true, true, true, false, false, false, false, false] rfl rfl (by kernel_rfl) (fun _ _ _ h => h) (Or.inl ⟨by rfl, ?_⟩) ?_ ?_
    rotate_left
    · intro w'
      go_simp
      with_reducible rfl
    rotate_left
    · simp only [Act.put, List.setIfInBounds_toArray, List.set_cons_zero, List.set_cons_succ, i64_w, i32_w]
      rfl
    refine take_ (i := 3) (N := some 27) (v := ?_) (a' := ?_) #[true, true, true, true, false, false, false, false] rfl rfl (by kernel_rfl) (fun _ _ _ h => h) (Or.inl ⟨by rfl, ?_⟩) hHeld ?_ ?_
    rotate_left
    · intro w' hS'
      have cl := nd_l hS' HA.out.1.1
      go_simp
      with_reducible rfl
    rotate_left
    · simp only [Act.put, List.setIfInBounds_toArray, List.set_cons_zero, List.set_cons_succ, i64_w, i32_w]
      rfl
    refine pure_ (i := 4) (N := some 28) (v := ?_) (a' := ?_) #[true, true, true, true, true, false, false, false] rfl rfl (by kernel_rfl) (fun _ _ _ h => h) (Or.inl ⟨by rfl, ?_⟩) ?_ ?_
    rotate_left
    · intro w'
      go_simp
      with_reducible rfl
    rotate_left
    · simp only [Act.put, List.setIfInBounds_toArray, List.set_cons_zero, List.set_cons_succ, i64_w, i32_w]
      rfl
    refine pure_ (i := 5) (N := some 29) (v := ?_) (a' := ?_) #[true, true, true, true, true, true, false, false] rfl rfl (by kernel_rfl) (fun _ _ _ h => h) (Or.inl ⟨by rfl, ?_⟩) ?_ ?_
    rotate_left
    · intro w'
      go_simp
      with_reducible rfl
    rotate_left
    · simp only [Act.put, List.setIfInBounds_toArray, List.set_cons_zero, List.set_cons_succ, i64_w, i32_w]
      rfl
    refine pure_ (i := 6) (N := some 30) (v := ?_) (a' := ?_) #[true, true, true, true, true, true, true, false] rfl rfl (by kernel_rfl) (fun _ _ _ h => h) (Or.inl ⟨by rfl, ?_⟩) ?_ ?_
    rotate_left
    · intro w'
      go_simp
      with_reducible rfl
    rotate_left
    · simp only [Act.put, List.setIfInBounds_toArray, List.set_cons_zero, List.set_cons_succ, i64_w, i32_w]
      rfl
    refine last_ (i := 7) (N := some 31) #[true, true, true, true, true, true, true, true] rfl rfl (by kernel_rfl) (by decide) (fun K hK => ?_)
    refine goes_ Tryd.func50 (by kernel_rfl) rfl #[l.p, .pointer (some ⟨w.heap.size, 33, none⟩)] (by rfl) rfl rfl (by simp only [List.map_toArray, List.map_cons, List.map_nil]; rfl) ?_
    refine (HC2.out).mono ?_
    rintro e w3 ⟨rfl, hq3⟩
    refine ⟨_, rfl, ?_⟩
    refine hK.out _ _ ?_
    clear hK K
    refine done_ (by kernel_rfl) ?_
    obtain ⟨l', la, le, ln, lb, lq, lc⟩ := hq3
    rw [cellsN_setL HA.out.1.1] at lq
    have c23 : Chg [w.heap.size] W2 w3 := (Chg_drew W2).trans lc (fun x h => absurd h (by simp)) (fun x h _ => h)
    have a3 := at_keep c23 _ HW2.out.2.2.2.2.2.1 (fun x hx e => by have := at_lt _ HA.out.1 x hx; rw [List.mem_singleton.1 e] at this; exact Nat.lt_irrefl _ this)
    have z3 : W2.heap.size ≤ w3.heap.size := c23.size
    have HW3 := Aside0.mk (And.intro a3.2.1 (And.intro la (And.intro le (And.intro ln (And.intro (show ∀ x ∈ l'.bl, w.heap.size + 1 ≤ x from fun x hx => by have := lb x hx; have := HW2.out.2.1; have e9 : W2.drew.heap.size = W2.heap.size := rfl; omega) (And.intro lq (And.intro c23 (And.intro a3 z3))))))))
    clear la le ln lb lq lc c23 a3 z3
    have hcall := ihr w.heap.size 34 _ 88 w3.drew (at_keep (Chg_drew w3) r HW3.out.2.2.2.2.2.2.2.1.2.2.2 (by simp)) HW3.out.2.2.2.2.2.1 (cellsN_at HA.out.1.1 1) (fun hx => Nat.lt_irrefl _ (at_lt r HA.out.1.2.2.2 _ hx))
    have HC3 := Aside0.mk hcall
    clear hcall ihr
    go_wp2_with fail
    refine start_ (n := 8) (S := fun w' => w'.heap[g]? = some (.cells (cellsN b bs l.p r.p h0) 88 (0, 0))) (ds := [7]) #[false, false, false, false, false, false, false, false] (by kernel_rfl) rfl rfl HW3.out.1 (fun hHeld => ?_)
    refine pure_ (i := 0) (N := some 32) (v := ?_) (a' := ?_) #[true, false, false, false, false, false, false, false] rfl rfl (by kernel_rfl) (fun _ _ _ h => h) (Or.inl ⟨by rfl, ?_⟩) ?_ ?_
    rotate_left
    · intro w'
      go_simp
      with_reducible rfl
    rotate_left
    · simp only [Act.put, List.setIfInBounds_toArray, List.set_cons_zero, List.set_cons_succ, i64_w, i32_w]
      rfl
    refine pure_ (i := 1) (N := some 33) (v := ?_) (a' := ?_) #[true, true, false, false, false, false, false, false] rfl rfl (by kernel_rfl) (fun _ _ _ h => h) (Or.inl ⟨by rfl, ?_⟩) ?_ ?_
    rotate_left
    · intro w'
      go_simp
      with_reducible rfl
    rotate_left
    · simp only [Act.put, List.setIfInBounds_toArray, List.set_cons_zero, List.set_cons_succ, i64_w, i32_w]
      rfl
    refine pure_ (i := 2) (N := some 34) (v := ?_) (a' := ?_) #[true, true, true, false, false, false, false, false] rfl rfl (by kernel_rfl) (fun _ _ _ h => h) (Or.inl ⟨by rfl, ?_⟩) ?_ ?_
    rotate_left
    · intro w'
      go_simp
      with_reducible rfl
    rotate_left
    · simp only [Act.put, List.setIfInBounds_toArray, List.set_cons_zero, List.set_cons_succ, i64_w, i32_w]
      rfl
    refine take_ (i := 3) (N := some 35) (v := ?_) (a' := ?_) #[true, true, true, true, false, false, false, false] rfl rfl (by kernel_rfl) (fun _ _ _ h => h) (Or.inl ⟨by rfl, ?_⟩) hHeld ?_ ?_
    rotate_left
    · intro w' hS'
      have cl := nd_r hS' HA.out.1.1
      go_simp
      with_reducible rfl
    rotate_left
    · simp only [Act.put, List.setIfInBounds_toArray, List.set_cons_zero, List.set_cons_succ, i64_w, i32_w]
      rfl
    refine pure_ (i := 4) (N := some 36) (v := ?_) (a' := ?_) #[true, true, true, true, true, false, false, false] rfl rfl (by kernel_rfl) (fun _ _ _ h => h) (Or.inl ⟨by rfl, ?_⟩) ?_ ?_
    rotate_left
    · intro w'
      go_simp
      with_reducible rfl
    rotate_left
    · simp only [Act.put, List.setIfInBounds_toArray, List.set_cons_zero, List.set_cons_succ, i64_w, i32_w]
      rfl
    refine pure_ (i := 5) (N := some 37) (v := ?_) (a' := ?_) #[true, true, true, true, true, true, false, false] rfl rfl (by kernel_rfl) (fun _ _ _ h => h) (Or.inl ⟨by rfl, ?_⟩) ?_ ?_
    rotate_left
    · intro w'
      go_simp
      with_reducible rfl
    rotate_left
    · simp only [Act.put, List.setIfInBounds_toArray, List.set_cons_zero, List.set_cons_succ, i64_w, i32_w]
      rfl
    refine pure_ (i := 6) (N := some 38) (v := ?_) (a' := ?_) #[true, true, true, true, true, true, true, false] rfl rfl (by kernel_rfl) (fun _ _ _ h => h) (Or.inl ⟨by rfl, ?_⟩) ?_ ?_
    rotate_left
    · intro w'
      go_simp
      with_reducible rfl
    rotate_left
    · simp only [Act.put, List.setIfInBounds_toArray, List.set_cons_zero, List.set_cons_succ, i64_w, i32_w]
      rfl
    refine last_ (i := 7) (N := some 39) #[true, true, true, true, true, true, true, true] rfl rfl (by kernel_rfl) (by decide) (fun K hK => ?_)
    refine goes_ Tryd.func50 (by kernel_rfl) rfl #[r.p, .pointer (some ⟨w.heap.size, 34, none⟩)] (by rfl) rfl rfl (by simp only [List.map_toArray, List.map_cons, List.map_nil]; rfl) ?_
    refine (HC3.out).mono ?_
    rintro e w4 ⟨rfl, hq4⟩
    refine ⟨_, rfl, ?_⟩
    refine hK.out _ _ ?_
    clear hK K
    refine done_ (by kernel_rfl) ?_
    obtain ⟨r', ra, re, rn, rb, rq, rc⟩ := hq4
    rw [cellsN_setR HA.out.1.1] at rq
    have c34 : Chg [w.heap.size] w3 w4 := (Chg_drew w3).trans rc (fun x h => absurd h (by simp)) (fun x h _ => h)
    have H4 := Aside0.mk (And.intro ra (And.intro re (And.intro rn (And.intro rb (And.intro rq c34)))))
    clear ra re rn rb rq rc c34
    go_wp2_with fail
    refine bodyPost_end (results_none rfl _ _ _) rfl ?_
    obtain ⟨ra, re, rn, rb, rq, c34⟩ := H4.out
    obtain ⟨g3, la, le, ln, lb, lq, c23, a3, z3⟩ := HW3.out
    obtain ⟨g2, z2, q2, t2, c02, a2, htl⟩ := HW2.out
    have c24 : Chg [w.heap.size] W2 w4 := c23.trans c34 (fun x h => h) (fun x h _ => h)
    refine ⟨rfl, .node w.heap.size b bs l' r' h0, ⟨HA.out.1.1, rq, at_keep c34 l' la (fun x hx e => by have := lb x hx; rw [List.mem_singleton.1 e] at this; omega), ra⟩, ?_, ?_, ?_, ?_, ?_⟩
    · rw [er, er, le, re]
    · refine List.nodup_cons.2 ⟨fun hx => ?_, List.nodup_append.2 ⟨ln, rn, fun x hx y hy e => ?_⟩⟩
      · rcases List.mem_append.1 hx with hx | hx
        · have := lb _ hx; omega
        · have := rb _ hx; have e9 : w3.drew.heap.size = w3.heap.size := rfl; omega
      · have := at_lt l' la x hx; have := rb y hy; have e9 : w3.drew.heap.size = w3.heap.size := rfl; omega
    · intro x hx
      rcases List.mem_cons.1 hx with rfl | hx
      · exact Nat.le_refl _
      · rcases List.mem_append.1 hx with hx | hx
        · have := lb _ hx; omega
        · have := rb _ hx; have e9 : w3.drew.heap.size = w3.heap.size := rfl; omega
    · rw [c24.keep TB (by omega) (by simp; omega)]
      exact t2
    · exact c02.trans c24 (fun x h => h) (fun x h hlt => by rw [List.mem_singleton.1 h] at hlt; omega)
set_option maxHeartbeats 8000000 in
set_option maxRecDepth 100000 in
theorem Clone_calls (SS : Nat) (t : Tr) (L : List Nat) (w : World) (h : SetAt w SS t L) :
    Calls Tryd.prog 35 #[.pointer (some ⟨SS, 0, none⟩)] w fun e w' => ∃ t', e = .returned (.pointer (some ⟨w.heap.size, 0, none⟩)) ∧ SetAt w' w.heap.size t' L ∧ (∀ x ∈ t'.bl, w.heap.size ≤ x) ∧ Below w.heap.size w w' := by
  have HS := Aside0.mk (And.intro h True.intro)
  clear h
  go_enter Tryd.func35, Tryd.ntmps35
  go_wp2_with fail
  refine start_ (n := 11) (S := fun w' => w'.heap[SS]? = some (.cells (ssC t.p L.length t.sz false) 84 (0, 0))) (ds := []) #[false, false, false, false, false, false, false, false, false, false, false] (by kernel_rfl) rfl rfl HS.out.1.ss (fun hHeld => ?_)
  refine pure_ (i := 0) (N := some 6) (v := ?_) (a' := ?_) #[true, false, false, false, false, false, false, false, false, false, false] rfl rfl (by kernel_rfl) (fun _ _ _ h => h) (Or.inl ⟨by rfl, ?_⟩) ?_ ?_
  rotate_left
  · intro w'
    go_simp
    with_reducible rfl
  rotate_left
  · simp only [Act.put, List.setIfInBounds_toArray, List.set_cons_zero, List.set_cons_succ, i64_w, i32_w]
    rfl
  refine pure_ (i := 1) (N := some 7) (v := ?_) (a' := ?_) #[true, true, false, false, false, false, false, false, false, false, false] rfl rfl (by kernel_rfl) (fun _ _ _ h => h) (Or.inl ⟨by rfl, ?_⟩) ?_ ?_
  rotate_left
  · intro w'
    go_simp
    with_reducible rfl
  rotate_left
  · simp only [Act.put, List.setIfInBounds_toArray, List.set_cons_zero, List.set_cons_succ, i64_w, i32_w]
    rfl
  refine pure_ (i := 2) (N := some 8) (v := ?_) (a' := ?_) #[true, true, true, false, false, false, false, false, false, false, false] rfl rfl (by kernel_rfl) (fun _ _ _ h => h) (Or.inl ⟨by rfl, ?_⟩) ?_ ?_
  rotate_left
  · intro w'
    go_simp
    with_reducible rfl
  rotate_left
  · simp only [Act.put, List.setIfInBounds_toArray, List.set_cons_zero, List.set_cons_succ, i64_w, i32_w]
    rfl
  refine take_ (i := 3) (N := some 9) (v := ?_) (a' := ?_) #[true, true, true, true, false, false, false, false, false, false, false] rfl rfl (by kernel_rfl) (fun _ _ _ h => h) (Or.inl ⟨by rfl, ?_⟩) hHeld ?_ ?_
  rotate_left
  · intro w' hS'
    have c2 : w'.cell? ⟨SS, 2, none⟩ = some (.int .i64 (t.sz : Nat)) := cell_of_row w' SS 2 _ _ _ hS'
    go_simp
    with_reducible rfl
  rotate_left
  · simp only [Act.put, List.setIfInBounds_toArray, List.set_cons_zero, List.set_cons_succ, i64_w, i32_w]
    rfl
  refine pure_ (i := 4) (N := some 10) (v := ?_) (a' := ?_) #[true, true, true, true, true, false, false, false, false, false, false] rfl rfl (by kernel_rfl) (fun _ _ _ h => h) (Or.inl ⟨by rfl, ?_⟩) ?_ ?_
  rotate_left
  · intro w'
    go_simp
    with_reducible rfl
  rotate_left
  · simp only [Act.put, List.setIfInBounds_toArray, List.set_cons_zero, List.set_cons_succ, i64_w, i32_w]
    rfl
  refine pure_ (i := 5) (N := some 11) (v := ?_) (a' := ?_) #[true, true, true, true, true, true, false, false, false, false, false] rfl rfl (by kernel_rfl) (fun _ _ _ h => h) (Or.inl ⟨by rfl, ?_⟩) ?_ ?_
  rotate_left
  · intro w'
    go_simp
    with_reducible rfl
  rotate_left
  · simp only [Act.put, List.setIfInBounds_toArray, List.set_cons_zero, List.set_cons_succ, i64_w, i32_w]
    rfl
  refine pure_ (i := 6) (N := some 12) (v := ?_) (a' := ?_) #[true, true, true, true, true, true, true, false, false, false, false] rfl rfl (by kernel_rfl) (fun _ _ _ h => h) (Or.inl ⟨by rfl, ?_⟩) ?_ ?_
  rotate_left
  · intro w'
    go_simp
    with_reducible rfl
  rotate_left
  · simp only [Act.put, List.setIfInBounds_toArray, List.set_cons_zero, List.set_cons_succ, i64_w, i32_w]
    rfl
  refine take_ (i := 7) (N := some 13) (v := ?_) (a' := ?_) #[true, true, true, true, true, true, true, true, false, false, false] rfl rfl (by kernel_rfl) (fun _ _ _ h => h) (Or.inl ⟨by rfl, ?_⟩) hHeld ?_ ?_
  rotate_left
  · intro w' hS'
    have c2 : w'.cell? ⟨SS, 1, none⟩ = some (.int .i64 (L.length : Nat)) := cell_of_row w' SS 1 _ _ _ hS'
    go_simp
    with_reducible rfl
  rotate_left
  · simp only [Act.put, List.setIfInBounds_toArray, List.set_cons_zero, List.set_cons_succ, i64_w, i32_w]
    rfl
  refine pure_ (i := 8) (N := some 14) (v := ?_) (a' := ?_) #[true, true, true, true, true, true, true, true, true, false, false] rfl rfl (by kernel_rfl) (fun _ _ _ h => h) (Or.inl ⟨by rfl, ?_⟩) ?_ ?_
  rotate_left
  · intro w'
    go_simp
    with_reducible rfl
  rotate_left
  · simp only [Act.put, List.setIfInBounds_toArray, List.set_cons_zero, List.set_cons_succ, i64_w, i32_w]
    rfl
  refine one_ (i := 9) (N := some 15) #[true, true, true, true, true, true, true, true, true, true, false] rfl rfl (by kernel_rfl) (by decide) (fun K hK => ?_)
  refine box_ (w1 := ?_) (v := ?_) (by rfl) rfl ?_ ?_
  rotate_left
  rotate_left
  · go_simp
    constructor <;> rfl
  refine hK.out _ _ (show ((w.alloc (.cells #[Value.pointer none, Value.int .i64 (L.length : Nat), Value.int .i64 (t.sz : Nat), Value.bool false] 84 (0, 0))).drew).heap[SS]? = some (.cells (ssC t.p L.length t.sz false) 84 (0, 0)) from (Below.heap_alloc _ _ _ HS.out.1.lt).trans HS.out.1.ss) (fun hHeld => ?_)
  clear hK K
  refine norm_ (a' := ?_) ?_ ?_
  rotate_left
  · show Act.put _ (some 15) _ = _
    simp only [Act.put, List.setIfInBounds_toArray, List.set_cons_zero, List.set_cons_succ, i64_w, i32_w]
    rfl
  refine pure_ (i := 10) (N := some 3) (v := ?_) (a' := ?_) #[true, true, true, true, true, true, true, true, true, true, true] rfl rfl (by kernel_rfl) (fun _ _ _ h => h) (Or.inl ⟨by rfl, ?_⟩) ?_ ?_
  rotate_left
  · intro w'
    go_simp
    with_reducible rfl
  rotate_left
  · simp only [Act.put, List.setIfInBounds_toArray, List.set_cons_zero, List.set_cons_succ, i64_w, i32_w]
    rfl
  refine done_ (by kernel_rfl) ?_
  generalize hW1 : (w.alloc (.cells #[Value.pointer none, Value.int .i64 (L.length : Nat), Value.int .i64 (t.sz : Nat), Value.bool false] 84 (0, 0))).drew = W1
  have b1 : Below w.heap.size w W1 := by rw [← hW1]; exact pw_below_drewN (below_alloc (Below.refl _ _) _) 1
  have z1 : W1.heap.size = w.heap.size + 1 := by rw [← hW1]; simp [World.drew]
  have q1 : W1.heap[w.heap.size]? = some (.cells (ssC (.pointer none) L.length t.sz false) 84 (0, 0)) := by rw [← hW1]; exact heap_alloc_new w _
  have s1 : SetAt W1 SS t L := HS.out.1.keep (chg_below' b1) (by simp)
  have c1 : W1.cell? ⟨SS, 0, none⟩ = some (.pointer t.pp) := cell_of_row W1 SS 0 _ _ _ s1.ss
  have HC := Aside0.mk (clone_calls t w.heap.size 0 _ 84 W1.drew (at_keep (Chg_drew W1) t s1.tr (by simp)) q1 rfl (fun hx => Nat.lt_irrefl _ (at_lt t HS.out.1.tr _ hx)))
  have H1 := Aside0.mk (And.intro b1 z1)
  clear hW1 b1 z1 q1 s1 hHeld
  go_wp2_with fail
  refine start_ (n := 8) (S := fun w' => w'.cell? ⟨SS, 0, none⟩ = some (.pointer t.pp)) (ds := [7]) #[false, false, false, false, false, false, false, false] (by kernel_rfl) rfl rfl c1 (fun hHeld => ?_)
  refine pure_ (i := 0) (N := some 16) (v := ?_) (a' := ?_) #[true, false, false, false, false, false, false, false] rfl rfl (by kernel_rfl) (fun _ _ _ h => h) (Or.inl ⟨by rfl, ?_⟩) ?_ ?_
  rotate_left
  · intro w'
    go_simp
    with_reducible rfl
  rotate_left
  · simp only [Act.put, List.setIfInBounds_toArray, List.set_cons_zero, List.set_cons_succ, i64_w, i32_w]
    rfl
  refine pure_ (i := 1) (N := some 17) (v := ?_) (a' := ?_) #[true, true, false, false, false, false, false, false] rfl rfl (by kernel_rfl) (fun _ _ _ h => h) (Or.inl ⟨by rfl, ?_⟩) ?_ ?_
  rotate_left
  · intro w'
    go_simp
    with_reducible rfl
  rotate_left
  · simp only [Act.put, List.setIfInBounds_toArray, List.set_cons_zero, List.set_cons_succ, i64_w, i32_w]
    rfl
  refine pure_ (i := 2) (N := some 18) (v := ?_) (a' := ?_) #[true, true, true, false, false, false, false, false] rfl rfl (by kernel_rfl) (fun _ _ _ h => h) (Or.inl ⟨by rfl, ?_⟩) ?_ ?_
  rotate_left
  · intro w'
    go_simp
    with_reducible rfl
  rotate_left
  · simp only [Act.put, List.setIfInBounds_toArray, List.set_cons_zero, List.set_cons_succ, i64_w, i32_w]
    rfl
  refine take_ (i := 3) (N := some 19) (v := ?_) (a' := ?_) #[true, true, true, true, false, false, false, false] rfl rfl (by kernel_rfl) (fun _ _ _ h => h) (Or.inl ⟨by rfl, ?_⟩) hHeld ?_ ?_
  rotate_left
  · intro w' hS'
    go_simp
    with_reducible rfl
  rotate_left
  · simp only [Act.put, List.setIfInBounds_toArray, List.set_cons_zero, List.set_cons_succ, i64_w, i32_w]
    rfl
  refine pure_ (i := 4) (N := some 20) (v := ?_) (a' := ?_) #[true, true, true, true, true, false, false, false] rfl rfl (by kernel_rfl) (fun _ _ _ h => h) (Or.inl ⟨by rfl, ?_⟩) ?_ ?_
  rotate_left
  · intro w'
    go_simp
    with_reducible rfl
  rotate_left
  · simp only [Act.put, List.setIfInBounds_toArray, List.set_cons_zero, List.set_cons_succ, i64_w, i32_w]
    rfl
  refine pure_ (i := 5) (N := some 21) (v := ?_) (a' := ?_) #[true, true, true, true, true, true, false, false] rfl rfl (by kernel_rfl) (fun _ _ _ h => h) (Or.inl ⟨by rfl, ?_⟩) ?_ ?_
  rotate_left
  · intro w'
    go_simp
    with_reducible rfl
  rotate_left
  · simp only [Act.put, List.setIfInBounds_toArray, List.set_cons_zero, List.set_cons_succ, i64_w, i32_w]
    rfl
  refine pure_ (i := 6) (N := some 22) (v := ?_) (a' := ?_) #[true, true, true, true, true, true, true, false] rfl rfl (by kernel_rfl) (fun _ _ _ h => h) (Or.inl ⟨by rfl, ?_⟩) ?_ ?_
  rotate_left
  · intro w'
    go_simp
    with_reducible rfl
  rotate_left
  · simp only [Act.put, List.setIfInBounds_toArray, List.set_cons_zero, List.set_cons_succ, i64_w, i32_w]
    rfl
  refine last_ (i := 7) (N := some 23) #[true, true, true, true, true, true, true, true] rfl rfl (by kernel_rfl) (by decide) (fun K hK => ?_)
  refine goes_ Tryd.func50 (by kernel_rfl) rfl #[t.p, .pointer (some ⟨w.heap.size, 0, none⟩)] (by rfl) rfl rfl (by simp only [List.map_toArray, List.map_cons, List.map_nil]; rfl) ?_
  refine (HC.out).mono ?_
  rintro e w3 ⟨rfl, hq3⟩
  refine ⟨_, rfl, ?_⟩
  refine hK.out _ _ ?_
  clear hK K
  refine done_ (by kernel_rfl) ?_
  obtain ⟨t', ta, te, tn, tb, tq, tc⟩ := hq3
  have H3 := Aside0.mk (And.intro ta (And.intro te (And.intro tn (And.intro tb (And.intro tq tc)))))
  clear ta te tn tb tq tc
  go_wp2_with fail
  refine bodyPost_ret (results_tmp rfl _ _ _) rfl ?_
  obtain ⟨ta, te, tn, tb, tq, tc⟩ := H3.out
  obtain ⟨b1, z1⟩ := H1.out
  have e9 : W1.drew.heap.size = W1.heap.size := rfl
  have c13 : Chg [w.heap.size] W1 w3 := (Chg_drew W1).trans tc (fun x h => absurd h (by simp)) (fun x h _ => h)
  refine ⟨t', rfl, ⟨ta, tn, Rep_er HS.out.1.rep te, ?_, fun hx => by have := tb _ hx; omega⟩, fun x hx => by have := tb x hx; omega, ⟨c13.os.trans b1.os, c13.tape.trans b1.tape, c13.output.trans b1.output, Nat.le_trans b1.size c13.size, fun k hk => (c13.keep k (by omega) (by simp; omega)).trans (b1.block k hk)⟩⟩
  rw [tq, show t'.sz = t.sz by rw [← er_sz t', te, er_sz]]
  rfl
set_option maxHeartbeats 8000000 in
set_option maxRecDepth 100000 in
theorem SetClone_walk (A : Option Addr) (c : Nat) (acts : List (Int × Int)) (A' : Option Addr) (c' : Nat) (more : List (Int × Int)) (w : World) (hA : ActsAt w A acts) (hac : acts.length ≤ c) (hF : Formed acts) (hA' : ActsAt w A' more) (hac' : more.length ≤ c') (hF' : Formed more) (hl : acts.length + more.length ≤ 9000) (hT : TabAt 3 Lib.deBruijn64tab w) :
    Calls Tryd.prog 18 #[.slice A acts.length c, .slice A' more.length c'] w fun e w' => ∃ v0 v1, e = .returned (.tuple #[v0, v1]) ∧ Kd.R (Kd.int .u64) 32 w' w.heap.size (fun _ => True) v0 (nI (actsL [] acts)) ∧ Kd.R (Kd.int .u64) 32 w' w.heap.size (fun _ => True) v1 (nI (actsL (actsL [] acts) more)) ∧ Below w.heap.size w w' := by
  have HS := Aside0.mk (set_make A c acts w hA hac hF (by omega))
  have HM := Aside0.mk (And.intro hA' (And.intro hac' (And.intro hF' (And.intro hl hT))))
  clear hA hac hF hA' hac' hF' hl hT
  go_enter Tryd.func18, Tryd.ntmps18
  go_wp2_with fail
  refine HS.out.mono ?_
  rintro e w1 ⟨SS, t, rfl, hS1, hss, hx, hb1, -⟩
  have H1 := Aside0.mk (And.intro hS1 (And.intro hss (And.intro hx hb1)))
  clear hS1 hss hx hb1 HS
  go_wp2_with fail
  refine (Clone_calls SS t _ w1 H1.out.1).mono ?_
  rintro e w2 ⟨t2, rfl, hS2, hx2, hb2⟩
  have hll := actsL_le acts []
  have hb02 := below_step H1.out.2.2.2 hb2
  have hz1 := H1.out.2.2.2.size
  have HC := Aside0.mk (change_calls w A' c' more w1.heap.size t2 (actsL [] acts) w2 HM.out.1 HM.out.2.1 HM.out.2.2.1 (by simp only [List.length_nil] at hll; have := HM.out.2.2.2.1; omega) hb02 hS2 (fun x hx => by rcases List.mem_cons.1 hx with rfl | h; exact hz1; exact Nat.le_trans hz1 (hx2 x h)))
  have hS1' : SetAt w2 SS t (actsL [] acts) := H1.out.1.keep (chg_below' hb2) (by simp)
  have H2 := Aside0.mk (And.intro hS1' (And.intro hx2 (And.intro hb02 (And.intro (show (actsL [] acts).length ≤ 9000 by simp only [List.length_nil] at hll; have := HM.out.2.2.2.1; omega) (And.intro hz1 hb2.size)))))
  clear hS2 hx2 hb2 hll hb02 hz1 hS1'
  go_wp2_with fail
  refine HC.out.mono ?_
  rintro e w3 ⟨⟨v, rfl⟩, t3, -, hS3, hx3, hc3⟩
  obtain ⟨hS1', hx2, hb02, hl9, hz1, hz2⟩ := H2.out
  have hlt : ∀ x ∈ SS :: t.bl, x < w1.heap.size := fun x hx => by
    rcases List.mem_cons.1 hx with rfl | h
    · exact H1.out.1.lt
    · exact at_lt t H1.out.1.tr x h
  have hge : ∀ x ∈ w1.heap.size :: t2.bl, w1.heap.size ≤ x := fun x hx => by
    rcases List.mem_cons.1 hx with rfl | h
    · exact Nat.le_refl _
    · exact hx2 x h
  have hS13 : SetAt w3 SS t (actsL [] acts) := hS1'.keep hc3 (fun x hx hy => by have := hlt x hx; have := hge x hy; omega)
  have hb03 : Below w.heap.size w w3 := ⟨hc3.os.trans hb02.os, hc3.tape.trans hb02.tape, hc3.output.trans hb02.output, Nat.le_trans hb02.size hc3.size, fun k hk => (hc3.keep k (Nat.lt_of_lt_of_le hk hb02.size) (fun hm => by have := hge k hm; omega)).trans (hb02.block k hk)⟩
  have HA := Aside0.mk (all_walk SS t _ w3 hS13 hl9 (tab_below hb03 HM.out.2.2.2.2))
  have H3 := Aside0.mk (And.intro hS3 hb03)
  clear hS3 hx3 hc3 hS1' hx2 hb02 hl9 hz1 hz2 hlt hge hS13 hb03 HC
  go_wp2_with fail
  refine HA.out.mono ?_
  rintro e w4 ⟨v4, rfl, hr4, hb4⟩
  have hb04 := below_step H3.out.2 hb4
  have hl2 := actsL_le more (actsL [] acts)
  have hl3 := actsL_le acts []
  have HA2 := Aside0.mk (all_walk w1.heap.size t3 _ w4 (H3.out.1.keep (chg_below' hb4) (by simp)) (by simp only [List.length_nil] at hl3; have := HM.out.2.2.2.1; omega) (tab_below hb04 HM.out.2.2.2.2))
  have H4 := Aside0.mk (And.intro (Kd.R_mono (Kd.R_lower hr4 H3.out.2.size) (fun _ _ => trivial)) hb04)
  clear hr4 hb4 hb04 hl2 hl3 HA
  go_wp2_with fail
  refine HA2.out.mono ?_
  rintro e w5 ⟨v5, rfl, hr5, hb5⟩
  have H5 := Aside0.mk (And.intro hr5 hb5)
  clear hr5 hb5
  go_wp2_with fail
  refine bodyPost_ret (results_tmp2 rfl _ _ _) rfl ?_
  exact ⟨v4, v5, rfl, Kd.R_below H4.out.1 H5.out.2, Kd.R_mono (Kd.R_lower H5.out.1 H4.out.2.size) (fun _ _ => trivial), below_step H4.out.2 H5.out.2⟩

end Go.Proofs.YtjhdnapgdajllaaDoor.SetCloneW
