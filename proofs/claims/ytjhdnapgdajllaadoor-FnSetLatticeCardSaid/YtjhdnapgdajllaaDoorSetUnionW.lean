/- WALKS: two sets put together. -/
import Derived.Test.YtjhdnapgdajllaaDoorProg
import Derived.Below
import Derived.Deep.Draws
import Derived.Deep.AppendLies
import Derived.Maps.AppendAt
import Derived.OwnWalk
import Derived.Laws.BytesArg
import Derived.Laws.MakeOwn
import Derived.Laws.OwnMore
import Derived.Deep.OwnRows
import Derived.Tactics
import Derived.Lib.ConvBytes
import Derived.Laws.Slices
import Derived.WalkKit
import Derived.KernelRfl
import Derived.RowKit3
import Derived.Deep.LoopGhost
import Derived.Deep.QuietTactic
import Derived.BigQuiet
import Derived.WideLaws
import Derived.Deep.DeepCutAuto
import Derived.Deep.CutBlock
import Derived.Deep.RegionHeld3
import Derived.Laws.Rows
import Derived.Lib.AppendStr
import Derived.ArgAppend
import Derived.Laws.IdiomCopy
import Derived.OrdersHeld
import Derived.Laws.BitsLemmas
import Derived.RowKit
import Derived.Test.YtjhdnapgdajllaaDoorWWords
import Derived.Test.YtjhdnapgdajllaaDoorWLast
import Derived.Test.YtjhdnapgdajllaaDoorWTab
import Derived.Test.YtjhdnapgdajllaaDoorWFour
import Derived.Test.YtjhdnapgdajllaaDoorWQPut
import Derived.Test.YtjhdnapgdajllaaDoorWApart
import Derived.Test.YtjhdnapgdajllaaDoorWArr
import Derived.Test.YtjhdnapgdajllaaDoorWZeros
import Derived.Test.YtjhdnapgdajllaaDoorWFoot
import Derived.Test.YtjhdnapgdajllaaDoorWKept
import Derived.Test.YtjhdnapgdajllaaDoorWShare
import Derived.Test.YtjhdnapgdajllaaDoorWN
import Derived.Test.YtjhdnapgdajllaaDoorWFootNe
import Derived.Test.YtjhdnapgdajllaaDoorWAt
import Derived.Test.YtjhdnapgdajllaaDoorWEqStruct
import Derived.Test.YtjhdnapgdajllaaDoorWRepsOne
import Derived.Test.YtjhdnapgdajllaaDoorWInv
import Derived.Test.YtjhdnapgdajllaaDoorWInvWords
import Derived.Test.YtjhdnapgdajllaaDoorWGuard
import Derived.Test.YtjhdnapgdajllaaDoorWNEv
import Derived.Test.YtjhdnapgdajllaaDoorWMore
import Derived.Test.YtjhdnapgdajllaaDoorSetCloneW
import Derived.Test.YtjhdnapgdajllaaDoorSetLenW
namespace Go.Proofs.YtjhdnapgdajllaaDoor.SetUnionW
open Go.RowKit Go.Proofs.YtjhdnapgdajllaaDoorW.PrintWords Go.Proofs.YtjhdnapgdajllaaDoorW.PrintLast Go.Proofs.YtjhdnapgdajllaaDoorW.PrintMore
attribute [local go_sem] max2_int min2_int max_two min_two max_three min_three max_four min_four   -- for this text's walks alone
set_option linter.unusedVariables false
set_option linter.unusedSimpArgs false



open _root_.Go.Proofs.YtjhdnapgdajllaaDoor.SetW _root_.Go.Proofs.YtjhdnapgdajllaaDoor.SetSpecW _root_.Go.Proofs.YtjhdnapgdajllaaDoor.SetCloneW
def unL (L xs : List Nat) : List Nat := xs.foldl (fun L x => insL x L) L
theorem unL_append (L xs ys : List Nat) : unL L (xs ++ ys) = unL (unL L xs) ys := List.foldl_append
theorem mem_unL : ∀ (xs L : List Nat) (x : Nat), x ∈ unL L xs ↔ x ∈ L ∨ x ∈ xs
  | [], L, x => by simp [unL]
  | y :: ys, L, x => by
    rw [show unL L (y :: ys) = unL (insL y L) ys from rfl, mem_unL ys (insL y L) x, mem_insL, List.mem_cons]
    constructor
    · rintro ((h | h) | h)
      · exact .inr (.inl h)
      · exact .inl h
      · exact .inr (.inr h)
    · rintro (h | h | h)
      · exact .inl (.inr h)
      · exact .inl (.inl h)
      · exact .inr h
theorem insL_sorted (s : Nat) : ∀ L : List Nat, L.Pairwise (· < ·) → (insL s L).Pairwise (· < ·)
  | [], _ => by simp [insL]
  | x :: xs, h => by
    obtain ⟨h1, h2⟩ := List.pairwise_cons.1 h
    rw [insL]
    split
    · refine List.pairwise_cons.2 ⟨fun y hy => ?_, insL_sorted s xs h2⟩
      rcases (mem_insL s xs y).1 hy with e | e
      · omega
      · exact h1 y e
    · split
      · exact h
      · refine List.pairwise_cons.2 ⟨fun y hy => ?_, h⟩
        rcases List.mem_cons.1 hy with e | e
        · omega
        · have := h1 y e; omega
theorem unL_sorted : ∀ (xs L : List Nat), L.Pairwise (· < ·) → (unL L xs).Pairwise (· < ·)
  | [], _, h => h
  | y :: ys, L, h => unL_sorted ys (insL y L) (insL_sorted y L h)
theorem sorted_ext : ∀ (A B : List Nat), A.Pairwise (· < ·) → B.Pairwise (· < ·) → (∀ x, x ∈ A ↔ x ∈ B) → A = B
  | [], [], _, _, _ => rfl
  | [], b :: B, _, _, h => absurd ((h b).2 List.mem_cons_self) (by simp)
  | a :: A, [], _, _, h => absurd ((h a).1 List.mem_cons_self) (by simp)
  | a :: A, b :: B, hA, hB, h => by
    obtain ⟨a1, a2⟩ := List.pairwise_cons.1 hA
    obtain ⟨b1, b2⟩ := List.pairwise_cons.1 hB
    have e : a = b := by
      rcases List.mem_cons.1 ((h a).1 List.mem_cons_self) with e | e
      · exact e
      · rcases List.mem_cons.1 ((h b).2 List.mem_cons_self) with e' | e'
        · exact e'.symm
        · have := a1 b e'; have := b1 a e; omega
    subst e
    rw [sorted_ext A B a2 b2 (fun x => ?_)]
    constructor
    · intro hx
      rcases List.mem_cons.1 ((h x).1 (List.mem_cons_of_mem _ hx)) with e | e
      · have := a1 x hx; omega
      · exact e
    · intro hx
      rcases List.mem_cons.1 ((h x).2 (List.mem_cons_of_mem _ hx)) with e | e
      · have := b1 x hx; omega
      · exact e
theorem insL_le (s : Nat) : ∀ L : List Nat, (insL s L).length ≤ L.length + 1
  | [] => Nat.le_refl _
  | x :: xs => by
    rw [insL]
    split
    · have := insL_le s xs
      simp only [List.length_cons]; omega
    · split <;> simp only [List.length_cons] <;> omega
theorem unL_le : ∀ (xs L : List Nat), (unL L xs).length ≤ L.length + xs.length
  | [], L => Nat.le_refl _
  | y :: ys, L => by
    have := unL_le ys (insL y L)
    have := insL_le y L
    show (unL (insL y L) ys).length ≤ _
    rw [List.length_cons]
    omega
theorem unL_comm {A B : List Nat} (hA : A.Pairwise (· < ·)) (hB : B.Pairwise (· < ·)) : unL A B = unL B A :=
  sorted_ext _ _ (unL_sorted B A hA) (unL_sorted A B hB) (fun x => by rw [mem_unL, mem_unL]; exact Or.comm)
/-- A tree's numbers, each node ahead of what hangs on it. -/
def preT : Tr → List Nat
  | .nil => []
  | .node _ b bs l r _ => ownF b bs ++ ((preT l) ++ (preT r))
theorem mem_pre : ∀ (t : Tr) (x : Nat), x ∈ (preT t) ↔ x ∈ t.nums
  | .nil, x => Iff.rfl
  | .node g b bs l r h, x => by
    rw [preT, Tr.nums, List.mem_append, List.mem_append, List.mem_append, List.mem_append, mem_pre l, mem_pre r]
    constructor
    · rintro (h | h | h)
      · exact .inr (.inl h)
      · exact .inl h
      · exact .inr (.inr h)
    · rintro (h | h | h)
      · exact .inr (.inl h)
      · exact .inl h
      · exact .inr (.inr h)
theorem pre_len : ∀ t : Tr, (preT t).length = t.nums.length
  | .nil => rfl
  | .node g b bs l r h => by
    rw [preT, Tr.nums, List.length_append, List.length_append, List.length_append, List.length_append, pre_len l, pre_len r]
    omega
theorem unL_pre {A L : List Nat} {t : Tr} (hA : A.Pairwise (· < ·)) (h : Rep t L) : unL A (preT t) = unL A L :=
  sorted_ext _ _ (unL_sorted _ A hA) (unL_sorted _ A hA) (fun x => by rw [mem_unL, mem_unL, mem_pre, h.nums])
/-- The set that is filled, while numbers come: what lies in it, and what may have changed. -/
structure UnAt (base BX SS : Nat) (G : List Nat) (La L : List Nat) (w : World) : Prop where
  low : base ≤ w.heap.size
  box : w.heap[BX]? = some (.cells #[.pointer (some ⟨SS, 0, none⟩)] 63 (0, 0))
  set : ∃ t, SetAt w SS t (unL La L) ∧ ∀ x ∈ SS :: t.bl, x ∈ G ∨ base ≤ x
theorem UnAt.put {base BX SS n : Nat} {G La L : List Nat} {w : World} (h : UnAt base BX SS G La L w) (hl : La.length + L.length ≤ 8999) (hn : n < top64) :
    Calls Tryd.prog 51 #[.pointer (some ⟨SS, 0, none⟩), .int .u64 (n : Int)] w fun e w' => e = .returned (.tuple #[]) ∧ UnAt base BX SS G La (L ++ [n]) w' ∧ Low base G w w' := by
  obtain ⟨t, hS, hx⟩ := h.set
  have hle := unL_le L La
  refine (put_calls SS t _ n w hS (by omega) hn).mono ?_
  rintro e w' ⟨rfl, t', -, hS', hx', hc⟩
  have hbx : BX ∉ SS :: t.bl := fun hm => by
    obtain ⟨cs, T, hT, hT2⟩ := hS.typed BX hm
    rw [h.box] at hT
    injection hT with hT
    injection hT with _ hT _
    rcases hT2 with e | e <;> rw [e] at hT <;> exact absurd hT (by decide)
  refine ⟨rfl, ⟨Nat.le_trans h.low hc.size, (hc.keep BX (Array.getElem?_eq_some_iff.1 h.box).1 hbx).trans h.box, t', ?_, fun x hm => ?_⟩, ⟨hc.os, hc.tape, hc.output, hc.size, fun k hk hn => ?_⟩⟩
  · rw [unL_append]
    exact hS'
  · rcases List.mem_cons.1 hm with rfl | hm
    · exact hx _ List.mem_cons_self
    · rcases hx' x hm with h1 | h1
      · exact hx x (List.mem_cons_of_mem _ h1)
      · exact .inr (Nat.le_trans h.low h1)
  · refine hc.keep k (Nat.lt_of_lt_of_le hk h.low) (fun hm => ?_)
    rcases hx k hm with h1 | h1
    · exact hn h1
    · omega
theorem UnAt.drew {base BX SS : Nat} {G La L : List Nat} {w : World} (h : UnAt base BX SS G La L w) : UnAt base BX SS G La L w.drew := by
  obtain ⟨t, hS, hx⟩ := h.set
  exact ⟨h.low, h.box, t, hS.keep (Chg_drew w) (by simp), hx⟩
theorem low_drew (base : Nat) (G : List Nat) (w : World) : Low base G w w.drew := ⟨rfl, rfl, rfl, Nat.le_refl _, fun _ _ _ => rfl⟩
set_option maxHeartbeats 16000000 in
set_option maxRecDepth 100000 in
theorem nodeIterU_calls (N base : Nat) (G : List Nat) (I : List Nat → World → Prop) (BX : Nat)
    (hF : ∀ (L : List Nat) (g b : Nat) (bs : List Nat) (l r : Tr) (h : Int) (w : World), I L w → (Tr.node g b bs l r h).at w → (Tr.node g b bs l r h).fit → TabAt 3 Lib.deBruijn64tab w → g < base ∧ g ∉ G → L.length + (ownF b bs).length ≤ N → Calls Tryd.prog 63 #[.pointer (some ⟨g, 0, none⟩), .pointer (some ⟨BX, 0, none⟩)] w fun e w' => e = .returned (.tuple #[]) ∧ I (L ++ ownF b bs) w' ∧ Low base G w w')
    (hgT : 3 < base ∧ 3 ∉ G) : ∀ (t : Tr) (L : List Nat) (w : World), t.at w → t.fit → I L w → TabAt 3 Lib.deBruijn64tab w → (∀ x ∈ t.bl, x < base ∧ x ∉ G) → L.length + (preT t).length ≤ N →
    Calls Tryd.prog 59 #[t.p, .func (.func 63) #[] #[.pointer (some ⟨BX, 0, none⟩)]] w fun e w' => e = .returned (.tuple #[]) ∧ I (L ++ preT t) w' ∧ Low base G w w' := by
  intro t
  induction t with
  | nil =>
    intro L w ha hf hI hT hd hN
    show Calls Tryd.prog 59 #[.pointer none, .func (.func 63) #[] #[.pointer (some ⟨BX, 0, none⟩)]] w _
    have HI := Aside0.mk hI
    clear ha hf hI hT hd hF hgT hN
    go_enter Tryd.func59, Tryd.ntmps59
    go_wp2_with fail
    refine bodyPost_ret (results_none rfl _ _ _) rfl ?_
    exact ⟨rfl, by rw [preT, List.append_nil]; exact HI.out, Low.refl _ _ _⟩
  | node g b bs l r h0 ihl ihr =>
    intro L w ha hf hI hT hd hN
    show Calls Tryd.prog 59 #[.pointer (some ⟨g, 0, none⟩), .func (.func 63) #[] #[.pointer (some ⟨BX, 0, none⟩)]] w _
    rw [preT, List.length_append, List.length_append] at hN
    have hdl : ∀ x ∈ l.bl, x < base ∧ x ∉ G := fun x hx => hd x (List.mem_cons_of_mem _ (List.mem_append_left _ hx))
    have hdr : ∀ x ∈ r.bl, x < base ∧ x ∉ G := fun x hx => hd x (List.mem_cons_of_mem _ (List.mem_append_right _ hx))
    have HC := Aside0.mk (hF L g b bs l r h0 w hI ha hf hT (hd g List.mem_cons_self) (by omega))
    have HH := Aside0.mk (And.intro ha (And.intro hf (And.intro hT (And.intro hd (And.intro hdl (And.intro hdr (And.intro hgT hN)))))))
    clear ha hf hI hT hd hdl hdr hgT hN hF
    go_enter Tryd.func59, Tryd.ntmps59
    go_wp2_with fail
    refine HC.out.mono ?_
    rintro e w1 ⟨rfl, i1, l1⟩
    obtain ⟨ha, hf, hT, hd, hdl, hdr, hgT, hN⟩ := HH.out
    have a1 := at_low l1 _ ha hd
    have kl : w1.cell? ⟨g, 33, none⟩ = some (.pointer l.pp) := nd_l a1.2.1 a1.1
    have HC1 := Aside0.mk (ihl (L ++ ownF b bs) w1 a1.2.2.1 hf.2.2.1 i1 (tab_low l1 hgT.1 hgT.2 hT) hdl (by rw [List.length_append]; omega))
    have H1 := Aside0.mk (And.intro a1 l1)
    clear ha hf hT hd hdl hdr hgT hN a1 i1 l1 ihl HC
    go_wp2_with fail
    refine HC1.out.mono ?_
    rintro e w2 ⟨rfl, i2, l2⟩
    obtain ⟨ha, hf, hT, hd, hdl, hdr, hgT, hN⟩ := HH.out
    have l02 := H1.out.2.trans l2
    have a2 := at_low l02 _ ha hd
    have kr : w2.cell? ⟨g, 34, none⟩ = some (.pointer r.pp) := nd_r a2.2.1 a2.1
    have HC2 := Aside0.mk (ihr (L ++ ownF b bs ++ preT l) w2 a2.2.2.2 hf.2.2.2 i2 (tab_low l02 hgT.1 hgT.2 hT) hdr (by rw [List.length_append, List.length_append]; omega))
    have H2 := Aside0.mk l02
    clear ha hf hT hd hdl hdr hgT hN a2 i2 l2 l02 ihr HC1
    go_wp2_with fail
    refine HC2.out.mono ?_
    rintro e w3 ⟨rfl, i3, l3⟩
    have H3 := Aside0.mk (And.intro i3 l3)
    clear i3 l3
    go_wp2_with fail
    refine bodyPost_end (results_none rfl _ _ _) rfl ?_
    refine ⟨rfl, ?_, H2.out.trans H3.out.2⟩
    have := H3.out.1
    rw [List.append_assoc, List.append_assoc] at this
    exact this
set_option maxHeartbeats 16000000 in
set_option maxRecDepth 100000 in
theorem unNode_calls (base BX SS : Nat) (G La L : List Nat) (g b : Nat) (bs : List Nat) (l r : Tr) (h0 : Int) (w : World) (hI : UnAt base BX SS G La L w) (ha : (Tr.node g b bs l r h0).at w) (hf : (Tr.node g b bs l r h0).fit) (hT : TabAt 3 Lib.deBruijn64tab w) (hd : g < base ∧ g ∉ G) (hgT : 3 < base ∧ 3 ∉ G) (hN : La.length + (L.length + (ownF b bs).length) ≤ 8999) :
    Calls Tryd.prog 63 #[.pointer (some ⟨g, 0, none⟩), .pointer (some ⟨BX, 0, none⟩)] w fun e w' => e = .returned (.tuple #[]) ∧ UnAt base BX SS G La (L ++ ownF b bs) w' ∧ Low base G w w' := by
  obtain ⟨LL, hLL⟩ : ∃ LL, LL = bs.map (fun z : Nat => Value.int .u64 (z : Int)) := ⟨_, rfl⟩
  have HRG := Aside0.mk (show w.rangeAt g 1 LL by rw [hLL]; exact range_bits ha.1 ha.2.1)
  have HLL := Aside0.mk (show (Tryd.prog.info? 86).map (·.size) = some LL.length by rw [hLL, List.length_map, ha.1]; kernel_rfl)
  have HL2 := Aside0.mk hLL
  have HH := Aside0.mk (And.intro hI (And.intro ha (And.intro hf (And.intro hT (And.intro hd (And.intro hgT hN))))))
  clear hLL hI ha hf hT hd hgT hN
  go_enter Tryd.func63, Tryd.ntmps63
  go_wp2_with (first | ((with_reducible refine gate_dst (N := 9) rfl ?_); refine wpList_load_mid rfl 86 (.tmp 8) rfl g 1 rfl LL _ HRG.out Tryd.underlying86 (by rfl) HLL.out ?_))
  go_loopw [10] (fun v10 wx => ∃ (k : Nat) (L2 : List Nat), v10 = .int .i64 (k : Int) ∧ Aside0 (k ≤ 32) ∧ Aside0 (L ++ ownF b bs = L2 ++ ownF (b + 64 * k) (bs.drop k)) ∧ Aside0 (UnAt base BX SS G La L2 wx ∧ Low base G w wx)) (fun v10 _ => Road.leftOf 32 v10)
  case atStart => exact ⟨0, L, rfl, ⟨by omega⟩, ⟨rfl⟩, ⟨HH.out.1, Low.refl _ _ _⟩⟩
  case round =>
    obtain ⟨k, L2, rfl, HK, HRB, HIL⟩ := hrel
    obtain ⟨hI, ha, hf, hT, hd, hgT, hN⟩ := HH.out
    have cbw : wr.heap[g]? = some (.cells (cellsN b bs l.p r.p h0) 88 (0, 0)) := (HIL.out.2.keep g hd.1 hd.2).trans ha.2.1
    have hbl := ha.1
    rcases Nat.lt_or_ge k 32 with hk | hk
    · have k1' := eq_true (show (k : Int) < 32 by omega)
      have k2' := eq_true hk
      obtain ⟨zk, hzk⟩ : ∃ zk, zk = bs.getD k 0 := ⟨_, rfl⟩
      have hkl : k < bs.length := by rw [hbl]; exact hk
      have hzk2 : zk = bs[k] := by rw [hzk, List.getD_eq_getElem?_getD, List.getElem?_eq_getElem hkl]; rfl
      have ix : LL[k]? = some (.int .u64 (zk : Int)) := by
        rw [HL2.out, List.getElem?_map, hzk2, List.getElem?_eq_getElem hkl]
        rfl
      have hix := run_index_bits LL k zk wr hk ix
      have cb := nd_base cbw
      have hb64 : b + 4096 ≤ 18446744073709551616 := hf.1
      have u1 : IntKind.u64.wrap (k : Int) = (k : Int) := Road.wu64 _ _ rfl (by omega) (by omega)
      obtain ⟨m, hm⟩ : ∃ m, m = 64 * k := ⟨_, rfl⟩
      have u2 : IntKind.u64.wrap ((k : Int) * 64) = (m : Int) := Road.wu64 _ _ (by omega) (by omega) (by omega)
      obtain ⟨B, hB⟩ : ∃ B, B = b + m := ⟨_, rfl⟩
      have u3 : IntKind.u64.wrap ((b : Int) + (m : Int)) = (B : Int) := Road.wu64 _ _ (by omega) (by omega) (by omega)
      have hdrop : ownF (b + 64 * k) (bs.drop k) = (bitsOf zk).map (B + ·) ++ ownF (B + 64) (bs.drop (k + 1)) := by
        rw [List.drop_eq_getElem_cons hkl, ownF, hB, hm, hzk2]
      have hB64 : B + 64 ≤ 18446744073709549568 := by omega
      have hz64 : zk < 18446744073709551616 := by rw [hzk2]; exact hf.2.1 _ (List.getElem_mem hkl)
      have HZ := Aside0.mk (And.intro hk (And.intro hdrop (And.intro hB64 (And.intro hz64 (And.intro hB hm)))))
      clear hk hzk hzk2 hkl ix hb64 hm hB hdrop hB64 hz64 hI ha hf hT hd hgT hN cbw hbl
      go_wp2_with fail
      go_loopw [4] (fun v4 wx => ∃ (y : Nat) (L3 : List Nat), v4 = .int .u64 (y : Int) ∧ Aside0 (y < 18446744073709551616) ∧ Aside0 (L ++ ownF b bs = L3 ++ ((bitsOf y).map (B + ·) ++ ownF (B + 64) (bs.drop (k + 1)))) ∧ Aside0 (UnAt base BX SS G La L3 wx ∧ Low base G w wx)) (fun v4 _ => Road_natOf v4)
      case atStart => exact ⟨zk, L2, rfl, ⟨HZ.out.2.2.2.1⟩, ⟨by rw [HRB.out, HZ.out.2.1]⟩, HIL⟩
      case round =>
        obtain ⟨y, L3, rfl, HY, HRB3, HIL3⟩ := hrel
        by_cases hy0 : y = 0
        · have z1 : ((y : Int) != 0) = false := bne_eq_false_iff_eq.2 (by omega)
          have z2 : decide (y = 0) = true := decide_eq_true hy0
          have z3 := eq_true hy0
          have HY0 := Aside0.mk hy0
          clear hy0
          go_wp2_with fail
          go_roundw
          case rel =>
            have hBk : b + 64 * (k + 1) = B + 64 := by have := HZ.out.2.2.2.2; omega
            refine ⟨k + 1, L3, ?_, ⟨HZ.out.1⟩, ⟨?_⟩, HIL3⟩
            · rw [Road.w64 ((k : Int) + 1) ((k + 1 : Nat) : Int) (by omega) (by omega) (by have := HZ.out.1; omega)]
            · rw [HRB3.out, HY0.out, bitsOf_zero, List.map_nil, List.nil_append, hBk]
          case measure =>
            rw [Road.w64 ((k : Int) + 1) ((k + 1 : Nat) : Int) (by omega) (by omega) (by have := HZ.out.1; omega)]
            exact Road.leftOf_lt HZ.out.1
        · have z1 : ((y : Int) != 0) = true := bne_iff_ne.2 (fun e => hy0 (Int.ofNat.inj e))
          have z2 : decide (y = 0) = false := decide_eq_false hy0
          have z3 := eq_false hy0
          obtain ⟨c, hc⟩ : ∃ c, c = Lib.ctz 64 y := ⟨_, rfl⟩
          have hc64 : c < 64 := by rw [hc]; exact (Lib.lowest_bit 64 y hy0 HY.out).2
          have u4 : IntKind.u64.wrap (c : Int) = (c : Int) := Road.wu64 _ _ rfl (by omega) (by omega)
          obtain ⟨n, hn⟩ : ∃ n, n = B + c := ⟨_, rfl⟩
          have hn64 : n < 18446744073709549568 := by have := HZ.out.2.2.1; omega
          have u5 : IntKind.u64.wrap ((B : Int) + (c : Int)) = (n : Int) := Road.wu64 _ _ (by omega) (by omega) (by omega)
          have hys : (bitsOf y).map (B + ·) = n :: (bitsOf (y &&& (y - 1))).map (B + ·) := by rw [bitsOf_step y hy0 HY.out, hn, hc]; rfl
          obtain ⟨y1, hy1⟩ : ∃ x, x = y - 1 := ⟨_, rfl⟩
          have u6 : IntKind.u64.wrap ((y : Int) - 1) = (y1 : Int) := Road.wu64 _ _ (by omega) (by omega) (by have := HY.out; omega)
          obtain ⟨y2, hy2⟩ : ∃ x, x = y &&& y1 := ⟨_, rfl⟩
          have u7 : bits .and .u64 (y : Int) (y1 : Int) = (y2 : Int) := by rw [hy2]; exact and_u64 y y1 HY.out (by have := HY.out; omega)
          have hy2l : y2 < y := by
            have : y2 ≤ y1 := by rw [hy2]; exact Nat.and_le_right
            omega
          obtain ⟨hI, ha, hf, hT, hd, hgT, hN⟩ := HH.out
          have htz := tz_calls y HY.out hy0 wr.drew (tab_low (HIL3.out.2.trans (low_drew base G wr)) hgT.1 hgT.2 hT)
          rw [← hc] at htz
          have HTZ := Aside0.mk htz
          rw [hy1] at hy2
          have hlen : La.length + L3.length ≤ 8999 := by
            have := congrArg List.length HRB3.out
            rw [List.length_append, List.length_append] at this
            omega
          have HPUT := Aside0.mk (UnAt.put (n := n) HIL3.out.1.drew hlen hn64)
          have HC := Aside0.mk (And.intro hn64 (And.intro hys (And.intro hy2 hy2l)))
          clear hy0 hc hc64 hn hn64 hys hy1 hy2 hy2l htz hI ha hf hT hd hgT hN hlen
          go_upto_region 5 with fail
          refine start_ (n := 7) (S := fun w' => UnAt base BX SS G La L3 w') (ds := [6]) #[false, false, false, false, false, false, false] (by kernel_rfl) rfl rfl HIL3.out.1.drew (fun hHeld => ?_)
          refine take_ (i := 0) (N := some 24) (v := ?_) (a' := ?_) #[true, false, false, false, false, false, false] rfl rfl (by kernel_rfl) (fun _ _ _ h => h) (Or.inl ⟨by rfl, ?_⟩) hHeld ?_ ?_
          rotate_left
          · intro w' hS'
            have cb := cell_of_row w' BX 0 _ _ _ hS'.box
            replace cb : w'.cell? ⟨BX, 0, none⟩ = some (.pointer (some ⟨SS, 0, none⟩)) := cb
            go_simp
            with_reducible rfl
          rotate_left
          · simp only [Act.put, List.setIfInBounds_toArray, List.set_cons_zero, List.set_cons_succ, i64_w, i32_w]
            rfl
          refine pure_ (i := 1) (N := some 25) (v := ?_) (a' := ?_) #[true, true, false, false, false, false, false] rfl rfl (by kernel_rfl) (fun _ _ _ h => h) (Or.inl ⟨by rfl, ?_⟩) ?_ ?_
          rotate_left
          · intro w'
            go_simp
            with_reducible rfl
          rotate_left
          · simp only [Act.put, List.setIfInBounds_toArray, List.set_cons_zero, List.set_cons_succ, i64_w, i32_w]
            rfl
          refine pure_ (i := 2) (N := some 26) (v := ?_) (a' := ?_) #[true, true, true, false, false, false, false] rfl rfl (by kernel_rfl) (fun _ _ _ h => h) (Or.inl ⟨by rfl, ?_⟩) ?_ ?_
          rotate_left
          · intro w'
            go_simp
            with_reducible rfl
          rotate_left
          · simp only [Act.put, List.setIfInBounds_toArray, List.set_cons_zero, List.set_cons_succ, i64_w, i32_w]
            rfl
          refine one_ (i := 3) (N := some 27) #[true, true, true, true, false, false, false] rfl rfl (by kernel_rfl) (by decide) (fun K hK => ?_)
          refine goes_ Tryd.func64 (by kernel_rfl) rfl #[.int .u64 (y : Int)] (by rfl) rfl rfl (by simp only [List.map_toArray, List.map_cons, List.map_nil]; rfl) ?_
          refine (HTZ.out).mono ?_
          rintro e w5 ⟨rfl, rfl⟩
          refine ⟨_, rfl, ?_⟩
          refine hK.out _ _ HIL3.out.1.drew (fun hHeld => ?_)
          clear hK K
          refine norm_ (a' := ?_) ?_ ?_
          rotate_left
          · show Act.put _ (some 27) _ = _
            simp only [Act.put, List.setIfInBounds_toArray, List.set_cons_zero, List.set_cons_succ, i64_w, i32_w]
            rfl
          refine pure_ (i := 4) (N := some 28) (v := ?_) (a' := ?_) #[true, true, true, true, true, false, false] rfl rfl (by kernel_rfl) (fun _ _ _ h => h) (Or.inl ⟨by rfl, ?_⟩) ?_ ?_
          rotate_left
          · intro w'
            go_simp
            with_reducible rfl
          rotate_left
          · simp only [Act.put, List.setIfInBounds_toArray, List.set_cons_zero, List.set_cons_succ, i64_w, i32_w]
            rfl
          refine pure_ (i := 5) (N := some 29) (v := ?_) (a' := ?_) #[true, true, true, true, true, true, false] rfl rfl (by kernel_rfl) (fun _ _ _ h => h) (Or.inl ⟨by rfl, ?_⟩) ?_ ?_
          rotate_left
          · intro w'
            go_simp
            with_reducible rfl
          rotate_left
          · simp only [Act.put, List.setIfInBounds_toArray, List.set_cons_zero, List.set_cons_succ, i64_w, i32_w]
            rfl
          refine last_ (i := 6) (N := some 30) #[true, true, true, true, true, true, true] rfl rfl (by kernel_rfl) (by decide) (fun K hK => ?_)
          refine goes_ Tryd.func51 (by kernel_rfl) rfl #[.pointer (some ⟨SS, 0, none⟩), .int .u64 (n : Int)] (by rfl) rfl rfl (by simp only [List.map_toArray, List.map_cons, List.map_nil]; rfl) ?_
          refine (HPUT.out).mono ?_
          rintro e w6 ⟨rfl, i6, l6⟩
          refine ⟨_, rfl, ?_⟩
          refine hK.out _ _ ?_
          clear hK K
          refine done_ (by kernel_rfl) ?_
          have H6 := Aside0.mk (And.intro i6 l6)
          clear i6 l6
          go_wp2_with fail
          go_roundw
          case rel =>
            refine ⟨y2, L3 ++ [n], rfl, ⟨by have := HC.out.2.2.2; have := HY.out; omega⟩, ⟨?_⟩, ⟨H6.out.1, HIL3.out.2.trans ((low_drew base G wr).trans H6.out.2)⟩⟩
            rw [HRB3.out, HC.out.2.1, HC.out.2.2.1, List.cons_append, List.append_assoc]
            rfl
          case measure =>
            show (y2 : Int).toNat < (y : Int).toNat
            have := HC.out.2.2.2
            omega
    · obtain rfl : k = 32 := by have := HK.out; omega
      have hrb4 : L ++ ownF b bs = L2 := by
        rw [HRB.out, List.drop_of_length_le (Nat.le_of_eq hbl)]
        simp [ownF]
      have H4 := Aside0.mk hrb4
      clear hrb4 hk hI ha hf hT hd hgT hN cbw hbl
      go_wp2_with fail
      refine bodyPost_end (results_none rfl _ _ _) rfl ?_
      rw [H4.out]
      exact ⟨rfl, HIL.out.1, HIL.out.2⟩
set_option maxHeartbeats 16000000 in
set_option maxRecDepth 100000 in
theorem iterU_calls (N base : Nat) (G : List Nat) (I : List Nat → World → Prop) (go : List Nat → Nat → Bool) (BX : Nat)
    (hF : ∀ (L : List Nat) (n : Nat) (w : World), I L w → L.length < N → n < 18446744073709549568 → Calls Tryd.prog 68 #[.int .u64 (n : Int), .pointer (some ⟨BX, 0, none⟩)] w fun e w' => e = .returned (.bool (go L n)) ∧ I (L ++ [n]) w' ∧ Low base G w w')
    (hgT : 3 < base ∧ 3 ∉ G) : ∀ (t : Tr) (L : List Nat) (w : World), t.at w → t.fit → I L w → TabAt 3 Lib.deBruijn64tab w → (∀ x ∈ t.bl, x < base ∧ x ∉ G) → L.length + t.nums.length ≤ N →
    Calls Tryd.prog 49 #[t.p, .func (.func 68) #[] #[.pointer (some ⟨BX, 0, none⟩)]] w fun e w' => e = .returned (.bool (runL go L t.nums).2) ∧ I (runL go L t.nums).1 w' ∧ Low base G w w' := by
  intro t
  induction t with
  | nil =>
    intro L w ha hf hI hT hd hN
    show Calls Tryd.prog 49 #[.pointer none, .func (.func 68) #[] #[.pointer (some ⟨BX, 0, none⟩)]] w fun e w' => e = .returned (.bool true) ∧ I L w' ∧ Low base G w w'
    have HI := Aside0.mk hI
    clear ha hf hI hT hd hF hgT hN
    go_enter Tryd.func49, Tryd.ntmps49
    go_wp2_with fail
    go_ret
    exact ⟨rfl, HI.out, Low.refl _ _ _⟩
  | node g b bs l r h0 ihl ihr =>
    intro L w ha hf hI hT hd hN
    show Calls Tryd.prog 49 #[.pointer (some ⟨g, 0, none⟩), .func (.func 68) #[] #[.pointer (some ⟨BX, 0, none⟩)]] w _
    obtain ⟨RB, hRB⟩ : ∃ x, x = runL go L (Tr.node g b bs l r h0).nums := ⟨_, rfl⟩
    rw [← hRB]
    have kl : w.cell? ⟨g, 33, none⟩ = some (.pointer l.pp) := nd_l ha.2.1 ha.1
    have hdl : ∀ x ∈ l.bl, x < base ∧ x ∉ G := fun x hx => hd x (List.mem_cons_of_mem _ (List.mem_append_left _ hx))
    have hdr : ∀ x ∈ r.bl, x < base ∧ x ∉ G := fun x hx => hd x (List.mem_cons_of_mem _ (List.mem_append_right _ hx))
    have hdg : g < base ∧ g ∉ G := hd g List.mem_cons_self
    have HH := Aside0.mk (And.intro ha (And.intro hf (And.intro hT (And.intro hdl (And.intro hdr hdg)))))
    have hN' : L.length + (l.nums.length + ((ownF b bs).length + r.nums.length)) ≤ N := by rw [Tr.nums, List.length_append, List.length_append] at hN; exact hN
    have HR := Aside0.mk (And.intro hRB hgT)
    have HN := Aside0.mk hN'
    have HFF := Aside0.mk hF
    have HI := Aside0.mk hI
    clear ha hf hI hT hd hdl hdr hdg hRB hgT hF hN hN'
    go_enter Tryd.func49, Tryd.ntmps49
    go_wp2_with fail
    refine (ihl L w HH.out.1.2.2.1 HH.out.2.1.2.2.1 HI.out HH.out.2.2.1 HH.out.2.2.2.1 (by have := HN.out; omega)).mono ?_
    rintro e w1 ⟨rfl, i1, l1⟩
    obtain ⟨q, hq⟩ : ∃ q, q = (runL go L l.nums).2 := ⟨_, rfl⟩
    obtain ⟨L1, hL1⟩ : ∃ q, q = (runL go L l.nums).1 := ⟨_, rfl⟩
    rw [← hL1] at i1
    rw [← hq]
    have H1 := Aside0.mk (And.intro i1 (And.intro l1 (And.intro hq hL1)))
    clear i1 l1 hq hL1 kl ihl HI
    cases q with
    | false =>
      go_wp2_with fail
      go_ret
      obtain ⟨i1, l1, hq, hL1⟩ := H1.out
      have e : RB = runL go L l.nums := by rw [HR.out.1, Tr.nums, runL_append, if_neg (by rw [← hq]; simp)]
      rw [e, ← hq, ← hL1]
      exact ⟨rfl, i1, l1⟩
    | true =>
      have e1 : RB = runL go L1 (ownF (b + 64 * 0) (bs.drop 0) ++ r.nums) := by
        rw [HR.out.1, Tr.nums, runL_append, if_pos H1.out.2.2.1.symm, ← H1.out.2.2.2]
        rfl
      have a1 : Tr.at w1 (Tr.node g b bs l r h0) := at_low H1.out.2.1 (Tr.node g b bs l r h0) HH.out.1 (fun x hx => (List.mem_cons.1 hx).elim (fun e => e ▸ HH.out.2.2.2.2.2) (fun e => (List.mem_append.1 e).elim (HH.out.2.2.2.1 x) (HH.out.2.2.2.2.1 x)))
      have hN1 : L1.length + (ownF (b + 64 * 0) (bs.drop 0) ++ r.nums).length ≤ N := by
        rw [H1.out.2.2.2, runL_full go l.nums L H1.out.2.2.1.symm, List.length_append, List.length_append]
        have := HN.out
        show L.length + l.nums.length + ((ownF b bs).length + r.nums.length) ≤ N
        omega
      have HE1 := Aside0.mk (And.intro e1 (And.intro a1 hN1))
      obtain ⟨LL, hLL⟩ : ∃ LL, LL = bs.map (fun z : Nat => Value.int .u64 (z : Int)) := ⟨_, rfl⟩
      have HRG := Aside0.mk (show w1.rangeAt g 1 LL by rw [hLL]; exact range_bits a1.1 a1.2.1)
      have HLL := Aside0.mk (show (Tryd.prog.info? 86).map (·.size) = some LL.length by rw [hLL, List.length_map, a1.1]; kernel_rfl)
      have HL2 := Aside0.mk hLL
      clear e1 a1 hLL hN1
      go_wp2_with (first | ((with_reducible refine gate_dst (N := 24) rfl ?_); refine wpList_load_mid rfl 86 (.tmp 23) rfl g 1 rfl LL _ HRG.out Tryd.underlying86 (by rfl) HLL.out ?_))
      go_loopw [25] (fun v25 wx => ∃ (k : Nat) (L2 : List Nat), v25 = .int .i64 (k : Int) ∧ Aside0 (k ≤ 32) ∧ Aside0 (RB = runL go L2 (ownF (b + 64 * k) (bs.drop k) ++ r.nums) ∧ L2.length + (ownF (b + 64 * k) (bs.drop k) ++ r.nums).length ≤ N) ∧ Aside0 (I L2 wx ∧ Low base G w1 wx)) (fun v25 _ => Road.leftOf 32 v25)
      case atStart => exact ⟨0, L1, rfl, ⟨by omega⟩, ⟨HE1.out.1, HE1.out.2.2⟩, ⟨H1.out.1, Low.refl _ _ _⟩⟩
      case round =>
        obtain ⟨k, L2, rfl, HK, HRB, HIL⟩ := hrel
        have aw : Tr.at wr (Tr.node g b bs l r h0) := at_low HIL.out.2 (Tr.node g b bs l r h0) HE1.out.2.1 (fun x hx => (List.mem_cons.1 hx).elim (fun e => e ▸ HH.out.2.2.2.2.2) (fun e => (List.mem_append.1 e).elim (HH.out.2.2.2.1 x) (HH.out.2.2.2.2.1 x)))
        rcases Nat.lt_or_ge k 32 with hk | hk
        · have k1' := eq_true (show (k : Int) < 32 by omega)
          have k2' := eq_true hk
          obtain ⟨zk, hzk⟩ : ∃ zk, zk = bs.getD k 0 := ⟨_, rfl⟩
          have hkl : k < bs.length := by rw [aw.1]; exact hk
          have hzk2 : zk = bs[k] := by rw [hzk, List.getD_eq_getElem?_getD, List.getElem?_eq_getElem hkl]; rfl
          have ix : LL[k]? = some (.int .u64 (zk : Int)) := by
            rw [HL2.out, List.getElem?_map, hzk2, List.getElem?_eq_getElem hkl]
            rfl
          have hix := run_index_bits LL k zk wr hk ix
          have cb := nd_base aw.2.1
          have hb64 : b + 4096 ≤ 18446744073709551616 := HH.out.2.1.1
          have u1 : IntKind.u64.wrap (k : Int) = (k : Int) := Road.wu64 _ _ rfl (by omega) (by omega)
          obtain ⟨m, hm⟩ : ∃ m, m = 64 * k := ⟨_, rfl⟩
          have u2 : IntKind.u64.wrap ((k : Int) * 64) = (m : Int) := Road.wu64 _ _ (by omega) (by omega) (by omega)
          obtain ⟨B, hB⟩ : ∃ B, B = b + m := ⟨_, rfl⟩
          have u3 : IntKind.u64.wrap ((b : Int) + (m : Int)) = (B : Int) := Road.wu64 _ _ (by omega) (by omega) (by omega)
          have hdrop : ownF (b + 64 * k) (bs.drop k) = (bitsOf zk).map (B + ·) ++ ownF (B + 64) (bs.drop (k + 1)) := by
            rw [List.drop_eq_getElem_cons hkl, ownF, hB, hm, hzk2]
          have hB64 : B + 64 ≤ 18446744073709549568 := by omega
          have hz64 : zk < 18446744073709551616 := by rw [hzk2]; exact HH.out.2.1.2.1 _ (List.getElem_mem hkl)
          have HZ := Aside0.mk (And.intro hk (And.intro hdrop (And.intro hB64 (And.intro hz64 (And.intro hB hm)))))
          clear hk hzk hzk2 hkl ix hb64 hm hB hdrop hB64 hz64 aw
          go_upto_region 10 with fail
          go_loopw [7] (fun v7 wx => ∃ (y : Nat) (L3 : List Nat), v7 = .int .u64 (y : Int) ∧ Aside0 (y < 18446744073709551616) ∧ Aside0 (RB = runL go L3 ((bitsOf y).map (B + ·) ++ (ownF (B + 64) (bs.drop (k + 1)) ++ r.nums)) ∧ L3.length + ((bitsOf y).map (B + ·) ++ (ownF (B + 64) (bs.drop (k + 1)) ++ r.nums)).length ≤ N) ∧ Aside0 (I L3 wx ∧ Low base G w1 wx)) (fun v7 _ => Road_natOf v7)
          case atStart => exact ⟨zk, L2, rfl, ⟨HZ.out.2.2.2.1⟩, ⟨by rw [HRB.out.1, HZ.out.2.1, List.append_assoc], by have := HRB.out.2; rw [HZ.out.2.1, List.append_assoc] at this; exact this⟩, HIL⟩
          case round =>
            obtain ⟨y, L3, rfl, HY, HRB3, HIL3⟩ := hrel
            by_cases hy0 : y = 0
            · have z1 : ((y : Int) != 0) = false := bne_eq_false_iff_eq.2 (by omega)
              have z2 : decide (y = 0) = true := decide_eq_true hy0
              have z3 := eq_true hy0
              have HY0 := Aside0.mk hy0
              clear hy0
              go_wp2_with fail
              go_roundw
              case rel =>
                have hBk : b + 64 * (k + 1) = B + 64 := by have := HZ.out.2.2.2.2; omega
                refine ⟨k + 1, L3, ?_, ⟨HZ.out.1⟩, ⟨?_, ?_⟩, HIL3⟩
                · rw [Road.w64 ((k : Int) + 1) ((k + 1 : Nat) : Int) (by omega) (by omega) (by have := HZ.out.1; omega)]
                · rw [HRB3.out.1, HY0.out, bitsOf_zero, List.map_nil, List.nil_append, hBk]
                · have := HRB3.out.2
                  rw [HY0.out, bitsOf_zero, List.map_nil, List.nil_append] at this
                  rw [hBk]
                  exact this
              case measure =>
                rw [Road.w64 ((k : Int) + 1) ((k + 1 : Nat) : Int) (by omega) (by omega) (by have := HZ.out.1; omega)]
                exact Road.leftOf_lt HZ.out.1
            · have z1 : ((y : Int) != 0) = true := bne_iff_ne.2 (fun e => hy0 (Int.ofNat.inj e))
              have z2 : decide (y = 0) = false := decide_eq_false hy0
              have z3 := eq_false hy0
              obtain ⟨c, hc⟩ : ∃ c, c = Lib.ctz 64 y := ⟨_, rfl⟩
              have hc64 : c < 64 := by rw [hc]; exact (Lib.lowest_bit 64 y hy0 HY.out).2
              have u4 : IntKind.u64.wrap (c : Int) = (c : Int) := Road.wu64 _ _ rfl (by omega) (by omega)
              obtain ⟨n, hn⟩ : ∃ n, n = B + c := ⟨_, rfl⟩
              have hn64 : n < 18446744073709549568 := by have := HZ.out.2.2.1; omega
              have u5 : IntKind.u64.wrap ((B : Int) + (c : Int)) = (n : Int) := Road.wu64 _ _ (by omega) (by omega) (by omega)
              have hys : (bitsOf y).map (B + ·) = n :: (bitsOf (y &&& (y - 1))).map (B + ·) := by rw [bitsOf_step y hy0 HY.out, hn, hc]; rfl
              obtain ⟨y1, hy1⟩ : ∃ x, x = y - 1 := ⟨_, rfl⟩
              have u6 : IntKind.u64.wrap ((y : Int) - 1) = (y1 : Int) := Road.wu64 _ _ (by omega) (by omega) (by have := HY.out; omega)
              obtain ⟨y2, hy2⟩ : ∃ x, x = y &&& y1 := ⟨_, rfl⟩
              have u7 : bits .and .u64 (y : Int) (y1 : Int) = (y2 : Int) := by rw [hy2]; exact and_u64 y y1 HY.out (by have := HY.out; omega)
              have hy2l : y2 < y := by
                have : y2 ≤ y1 := by rw [hy2]; exact Nat.and_le_right
                omega
              have htz := tz_calls y HY.out hy0 wr (tab_low (HIL3.out.2) HR.out.2.1 HR.out.2.2 (tab_low H1.out.2.1 HR.out.2.1 HR.out.2.2 HH.out.2.2.1))
              rw [← hc] at htz
              rw [hy1] at hy2
              have HC := Aside0.mk (And.intro hn64 (And.intro hys (And.intro hy2 hy2l)))
              clear hy0 hc hc64 hn hn64 hys hy1 hy2 hy2l
              go_wp2_with fail
              refine htz.mono ?_
              clear htz
              rintro e w5 ⟨rfl, rfl⟩
              go_wp2_with fail
              refine (HFF.out L3 n w5 HIL3.out.1 (by have := HRB3.out.2; rw [HC.out.2.1, List.cons_append, List.length_cons] at this; omega) HC.out.1).mono ?_
              rintro e w6 ⟨rfl, i6, l6⟩
              obtain ⟨q2, hq2⟩ : ∃ q2, q2 = go L3 n := ⟨_, rfl⟩
              rw [← hq2]
              have H6 := Aside0.mk (And.intro i6 (And.intro l6 hq2))
              clear i6 l6 hq2
              cases q2 with
              | false =>
                go_wp2_with fail
                go_ret
                have e : RB = (L3 ++ [n], false) := by rw [HRB3.out.1, HC.out.2.1, List.cons_append, runL, if_neg (by rw [← H6.out.2.2]; simp)]
                rw [e]
                exact ⟨rfl, H6.out.1, H1.out.2.1.trans (HIL3.out.2.trans H6.out.2.1)⟩
              | true =>
                go_wp2_with fail
                go_roundw
                case rel =>
                  refine ⟨y2, L3 ++ [n], rfl, ⟨by have := HC.out.2.2.2; have := HY.out; omega⟩, ⟨?_, ?_⟩, ⟨H6.out.1, HIL3.out.2.trans H6.out.2.1⟩⟩
                  · rw [HRB3.out.1, HC.out.2.1, List.cons_append, runL, if_pos H6.out.2.2.symm, HC.out.2.2.1]
                  · have := HRB3.out.2
                    rw [HC.out.2.1, List.cons_append, List.length_cons, ← HC.out.2.2.1] at this
                    rw [List.length_append, List.length_singleton]
                    omega
                case measure =>
                  show (y2 : Int).toNat < (y : Int).toNat
                  have := HC.out.2.2.2
                  omega
        · obtain rfl : k = 32 := by have := HK.out; omega
          have kr : wr.cell? ⟨g, 34, none⟩ = some (.pointer r.pp) := nd_r aw.2.1 aw.1
          have hrb4 : RB = runL go L2 r.nums := by
            rw [HRB.out.1, List.drop_of_length_le (Nat.le_of_eq aw.1)]
            rfl
          have hN4 : L2.length + r.nums.length ≤ N := by
            have := HRB.out.2
            rw [List.drop_of_length_le (Nat.le_of_eq aw.1)] at this
            exact this
          have HN4 := Aside0.mk hN4
          clear hN4
          have HRB4 := Aside0.mk hrb4
          clear hrb4
          have HAR := Aside0.mk aw.2.2.2
          clear hk aw
          go_wp2_with fail
          refine (ihr L2 wr HAR.out HH.out.2.1.2.2.2 HIL.out.1 (tab_low HIL.out.2 HR.out.2.1 HR.out.2.2 (tab_low H1.out.2.1 HR.out.2.1 HR.out.2.2 HH.out.2.2.1)) HH.out.2.2.2.2.1 HN4.out).mono ?_
          rintro e w6 ⟨rfl, i6, l6⟩
          rw [← HRB4.out] at i6 ⊢
          have H6 := Aside0.mk (And.intro i6 l6)
          clear i6 l6
          obtain ⟨q2, hq2⟩ : ∃ q2, q2 = RB.2 := ⟨_, rfl⟩
          rw [← hq2]
          have HQ2 := Aside0.mk hq2
          clear hq2
          cases q2 with
          | false =>
            go_wp2_with fail
            go_ret
            exact ⟨by rw [← HQ2.out]; rfl, H6.out.1, H1.out.2.1.trans (HIL.out.2.trans H6.out.2)⟩
          | true =>
            go_wp2_with fail
            go_ret
            exact ⟨by rw [← HQ2.out]; rfl, H6.out.1, H1.out.2.1.trans (HIL.out.2.trans H6.out.2)⟩
set_option maxHeartbeats 4000000 in
theorem rangeU_calls (N base : Nat) (G : List Nat) (I : List Nat → World → Prop) (go : List Nat → Nat → Bool) (BX : Nat)
    (hF : ∀ (L : List Nat) (n : Nat) (w : World), I L w → L.length < N → n < 18446744073709549568 → Calls Tryd.prog 68 #[.int .u64 (n : Int), .pointer (some ⟨BX, 0, none⟩)] w fun e w' => e = .returned (.bool (go L n)) ∧ I (L ++ [n]) w' ∧ Low base G w w')
    (hgT : 3 < base ∧ 3 ∉ G) (SS : Nat) (t : Tr) (L : List Nat) (w : World) (hS : SetAt w SS t L) (hI : I [] w) (hT : TabAt 3 Lib.deBruijn64tab w) (hd : ∀ x ∈ t.bl, x < base ∧ x ∉ G) (hN : L.length ≤ N) :
    Calls Tryd.prog 31 #[.pointer (some ⟨SS, 0, none⟩), .func (.func 68) #[] #[.pointer (some ⟨BX, 0, none⟩)]] w fun e w' => e = .returned (.tuple #[]) ∧ I (runL go [] L).1 w' ∧ Low base G w w' := by
  have c0 : w.cell? ⟨SS, 0, none⟩ = some (.pointer t.pp) := (cell_of_row w SS 0 _ _ _ hS.ss).trans rfl
  have HI := Aside0.mk (iterU_calls N base G I go BX hF hgT t [] w hS.tr hS.rep.fit hI hT hd (by rw [hS.rep.nums]; simpa using hN))
  have HN := Aside0.mk hS.rep.nums
  clear hF hgT hS hI hT hd hN
  go_enter Tryd.func31, Tryd.ntmps31
  go_wp2_with fail
  refine HI.out.mono ?_
  rintro e w1 ⟨rfl, i1, l1⟩
  rw [HN.out] at i1
  have H1 := Aside0.mk (And.intro i1 l1)
  clear i1 l1
  go_wp2_with fail
  go_end0
  exact ⟨rfl, H1.out.1, H1.out.2⟩
theorem sizeU_calls (SS : Nat) (t : Tr) (L : List Nat) (w : World) (h : SetAt w SS t L) :
    Calls Tryd.prog 41 #[.pointer (some ⟨SS, 0, none⟩)] w fun e w' => e = .returned (.int .i64 (L.length : Nat)) ∧ w' = w := by
  have c1 : w.cell? ⟨SS, 1, none⟩ = some (.int .i64 (L.length : Nat)) := cell_of_row w SS 1 _ _ _ h.ss
  clear h
  go_enter Tryd.func41, Tryd.ntmps41
  go_wp2_with fail
  go_ret
  exact ⟨rfl, rfl⟩
set_option maxHeartbeats 8000000 in
set_option maxRecDepth 100000 in
theorem unNum_calls (base BX SS : Nat) (G La L : List Nat) (n : Nat) (w : World) (hI : UnAt base BX SS G La L w) (hl : La.length + L.length ≤ 8999) (hn : n < 18446744073709549568) :
    Calls Tryd.prog 68 #[.int .u64 (n : Int), .pointer (some ⟨BX, 0, none⟩)] w fun e w' => e = .returned (.bool true) ∧ UnAt base BX SS G La (L ++ [n]) w' ∧ Low base G w w' := by
  have cb : w.cell? ⟨BX, 0, none⟩ = some (.pointer (some ⟨SS, 0, none⟩)) := cell_of_row w BX 0 _ _ _ hI.box
  have HP := Aside0.mk (hI.put hl hn)
  clear hI hl hn
  go_enter Tryd.func68, Tryd.ntmps68
  go_wp2_with fail
  refine HP.out.mono ?_
  rintro e w2 ⟨rfl, i2, l2⟩
  have H2 := Aside0.mk (And.intro i2 l2)
  clear i2 l2
  go_wp2_with fail
  go_ret
  exact ⟨rfl, H2.out.1, H2.out.2⟩
theorem SetAt_low {base : Nat} {G : List Nat} {w w' : World} {SS : Nat} {t : Tr} {L : List Nat} (h : SetAt w SS t L) (hc : Low base G w w') (hd : ∀ x ∈ SS :: t.bl, x < base ∧ x ∉ G) : SetAt w' SS t L :=
  ⟨at_low hc t h.tr (fun x hx => hd x (List.mem_cons_of_mem _ hx)), h.nodup, h.rep, (hc.keep SS (hd SS List.mem_cons_self).1 (hd SS List.mem_cons_self).2).trans h.ss, h.apart⟩
theorem not_set {w : World} {SS : Nat} {t : Tr} {L : List Nat} (hS : SetAt w SS t L) {B : Nat} {cs : Array Value} (hB : w.heap[B]? = some (.cells cs 63 (0, 0))) : B ∉ SS :: t.bl := fun hm => by
  obtain ⟨cs', T, hT, hT2⟩ := hS.typed B hm
  rw [hB] at hT
  injection hT with hT
  injection hT with _ hT _
  rcases hT2 with e | e <;> rw [e] at hT <;> exact absurd hT (by decide)
set_option maxHeartbeats 8000000 in
set_option maxRecDepth 100000 in
theorem UnionM_calls (SS SB AB : Nat) (ta tb : Tr) (La Lb : List Nat) (w : World) (hA : SetAt w SS ta La) (hB : SetAt w SB tb Lb) (hd : ∀ x ∈ SB :: tb.bl, x ∉ SS :: ta.bl) (hS : w.heap[AB]? = some (.cells #[.pointer (some ⟨SB, 0, none⟩)] 63 (0, 0))) (hl : La.length + Lb.length ≤ 8999) (hT : TabAt 3 Lib.deBruijn64tab w) (hg : 3 ∉ SS :: ta.bl) :
    Calls Tryd.prog 46 #[.pointer (some ⟨SS, 0, none⟩), .slice (some ⟨AB, 0, none⟩) 1 1] w fun e w' => e = .returned (.tuple #[]) ∧ ∃ t', SetAt w' SS t' (unL La Lb) ∧ (∀ x ∈ t'.bl, x ∈ ta.bl ∨ w.heap.size ≤ x) ∧ Chg (SS :: ta.bl) w w' := by
  obtain ⟨W1, hW1⟩ : ∃ W1, W1 = w.alloc (.cells #[.pointer (some ⟨SS, 0, none⟩)] 63 (0, 0)) := ⟨_, rfl⟩
  have b1 : Below w.heap.size w W1 := by rw [hW1]; exact below_alloc (Below.refl _ _) _
  have z1 : W1.heap.size = w.heap.size + 1 := by rw [hW1]; simp
  have q1 : W1.heap[w.heap.size]? = some (.cells #[.pointer (some ⟨SS, 0, none⟩)] 63 (0, 0)) := by rw [hW1]; exact heap_alloc_new w _
  have hlt : ∀ x ∈ SB :: tb.bl, x < W1.heap.size ∧ x ∉ SS :: ta.bl := fun x hx => ⟨by
    rcases List.mem_cons.1 hx with rfl | h
    · have := hB.lt; omega
    · have := at_lt tb hB.tr x h; omega, hd x hx⟩
  have hI : UnAt W1.heap.size w.heap.size SS (SS :: ta.bl) La [] W1 := ⟨Nat.le_refl _, q1, ta, hA.keep (chg_below' b1) (by simp), fun x hx => .inl hx⟩
  have hgT : 3 < W1.heap.size ∧ 3 ∉ SS :: ta.bl := ⟨by have := tab_lt hT; omega, hg⟩
  have hAB : AB < w.heap.size ∧ AB ∉ SS :: ta.bl := ⟨(Array.getElem?_eq_some_iff.1 hS).1, not_set hA hS⟩
  have hS1 : W1.heap[AB]? = some (.cells #[.pointer (some ⟨SB, 0, none⟩)] 63 (0, 0)) := (b1.block AB hAB.1).trans hS
  have HH := Aside0.mk (And.intro hI (And.intro (hB.keep (chg_below' b1) (by simp)) (And.intro hlt (And.intro hgT (And.intro hAB (And.intro hS1 (And.intro (tab_below b1 hT) (And.intro hl (And.intro b1 (And.intro z1 hA.rep.sorted))))))))))
  clear b1 z1 q1 hlt hI hgT hAB hS1 hA hB hd hS hl hT hg
  go_enter Tryd.func46, Tryd.ntmps46
  go_wp2_with fail
  rw [← hW1]
  clear hW1
  go_loopw [8] (fun v8 wx => ∃ k : Nat, v8 = .int .i64 (k : Int) ∧ Aside0 (k ≤ 1) ∧ Aside0 (UnAt W1.heap.size w.heap.size SS (SS :: ta.bl) La (if k = 0 then [] else preT tb) wx ∧ Low W1.heap.size (SS :: ta.bl) W1 wx)) (fun v8 _ => Road.leftOf 1 v8)
  case atStart => exact ⟨0, rfl, ⟨by omega⟩, ⟨HH.out.1, Low.refl _ _ _⟩⟩
  case round =>
    obtain ⟨k, rfl, HK, HI⟩ := hrel
    obtain ⟨hI, hB, hlt, hgT, hAB, hS1, hT, hl, b1, z1, hso⟩ := HH.out
    rcases Nat.lt_or_ge k 1 with hk | hk
    · obtain rfl : k = 0 := by omega
      have sB : SetAt wr SB tb Lb := SetAt_low hB HI.out.2 hlt
      have cA : wr.cell? ⟨AB, 0, none⟩ = some (.pointer (some ⟨SB, 0, none⟩)) := cell_of_row wr AB 0 _ _ _ ((HI.out.2.keep AB (by omega) hAB.2).trans hS1)
      have cB : wr.cell? ⟨SB, 0, none⟩ = some (.pointer tb.pp) := cell_of_row wr SB 0 _ _ _ sB.ss
      have HC := Aside0.mk (nodeIterU_calls (8999 - La.length) W1.heap.size (SS :: ta.bl) (UnAt W1.heap.size w.heap.size SS (SS :: ta.bl) La) w.heap.size (fun L g b bs l r h w hI ha hf hT hd hN => unNode_calls _ _ _ _ _ _ g b bs l r h w hI ha hf hT hd hgT (by omega)) hgT tb [] wr sB.tr sB.rep.fit HI.out.1 (tab_low HI.out.2 hgT.1 hgT.2 hT) (fun x hx => hlt x (List.mem_cons_of_mem _ hx)) (by rw [pre_len, sB.rep.nums, List.length_nil]; omega))
      have HI0 := Aside0.mk HI.out.2
      clear hI hB hlt hgT hAB hS1 hT hl b1 z1 hso sB hk HI
      go_wp2_with fail
      refine HC.out.mono ?_
      rintro e w2 ⟨rfl, i2, l2⟩
      have H2 := Aside0.mk (And.intro i2 l2)
      clear i2 l2
      go_wp2_with fail
      go_roundw
      case rel => exact ⟨1, rfl, ⟨Nat.le_refl _⟩, ⟨H2.out.1, HI0.out.trans H2.out.2⟩⟩
      case measure => decide
    · obtain rfl : k = 1 := by have := HK.out; omega
      clear hI hB hlt hgT hAB hS1 hT hl b1 z1 hso hk
      go_wp2_with fail
      refine bodyPost_end (results_none rfl _ _ _) rfl ?_
      obtain ⟨hI, hB, hlt, hgT, hAB, hS1, hT, hl, b1, z1, hso⟩ := HH.out
      obtain ⟨t', hS', hx⟩ := HI.out.1.set
      rw [if_neg (by decide), unL_pre hso hB.rep] at hS'
      have l2 := HI.out.2
      refine ⟨rfl, t', hS', fun x h => ?_, ⟨l2.os.trans b1.os, l2.tape.trans b1.tape, l2.output.trans b1.output, Nat.le_trans b1.size l2.size, fun i hi hn => (l2.keep i (by omega) hn).trans (b1.block i hi)⟩⟩
      rcases hx x (List.mem_cons_of_mem _ h) with h1 | h1
      · rcases List.mem_cons.1 h1 with e | e
        · subst e; exact absurd h hS'.apart
        · exact .inl e
      · right; omega
theorem isNaN_calls (x : Int) (w : World) : Calls Tryd.prog 81 #[.int .i64 x] w fun e w' => e = .returned (.bool false) ∧ w' = w := by
  go_enter Tryd.func81, Tryd.ntmps81
  go_wp2_with fail
  go_ret
  exact ⟨by simp, rfl⟩
theorem compare_calls (x y : Int) (w : World) : Calls Tryd.prog 67 #[.int .i64 x, .int .i64 y] w fun e w' => e = .returned (.int .i64 (if x < y then -1 else if y < x then 1 else 0)) ∧ w' = w := by
  obtain ⟨v, hv⟩ : ∃ v, v = (if x < y then (-1 : Int) else if y < x then 1 else 0) := ⟨_, rfl⟩
  rw [← hv]
  have HV := Aside0.mk hv
  clear hv
  go_enter Tryd.func67, Tryd.ntmps67
  go_wp2_with fail
  refine (isNaN_calls x _).mono ?_
  rintro e w1 ⟨rfl, rfl⟩
  go_wp2_with fail
  refine (isNaN_calls y _).mono ?_
  rintro e w2 ⟨rfl, rfl⟩
  rcases Int.lt_trichotomy x y with c | c | c
  · have d1 : decide (x < y) = true := decide_eq_true c
    have hv : v = -1 := by rw [HV.out, if_pos c]
    subst hv
    clear HV c
    go_wp2_with fail
    go_ret
    exact ⟨rfl, rfl⟩
  · have d1 : decide (x < y) = false := decide_eq_false (by omega)
    have d2 : decide (y < x) = false := decide_eq_false (by omega)
    have hv : v = 0 := by rw [HV.out, if_neg (by omega), if_neg (by omega)]
    subst hv
    clear HV c
    go_wp2_with fail
    go_ret
    exact ⟨rfl, rfl⟩
  · have d1 : decide (x < y) = false := decide_eq_false (by omega)
    have d2 : decide (y < x) = true := decide_eq_true c
    have hv : v = 1 := by rw [HV.out, if_neg (by omega), if_pos c]
    subst hv
    clear HV c
    go_wp2_with fail
    go_ret
    exact ⟨rfl, rfl⟩
theorem cmpU_calls (SI SJ : Nat) (ti tj : Tr) (Li Lj : List Nat) (w : World) (hI : SetAt w SI ti Li) (hJ : SetAt w SJ tj Lj) :
    Calls Tryd.prog 66 #[.pointer (some ⟨SI, 0, none⟩), .pointer (some ⟨SJ, 0, none⟩)] w fun e w' => e = .returned (.int .i64 (if Li.length < Lj.length then 1 else if Lj.length < Li.length then -1 else 0)) ∧ w' = w := by
  have HI := Aside0.mk (And.intro (sizeU_calls SI ti Li w hI) (sizeU_calls SJ tj Lj w hJ))
  obtain ⟨c, r, hc, hr, hn⟩ : ∃ c r : Int, c = (if (Li.length : Int) < (Lj.length : Int) then (-1 : Int) else if (Lj.length : Int) < (Li.length : Int) then 1 else 0) ∧ r = (if Li.length < Lj.length then 1 else if Lj.length < Li.length then -1 else 0) ∧ wrap64 (-c) = r := by
    rcases Nat.lt_trichotomy Li.length Lj.length with h | h | h
    · exact ⟨-1, 1, by rw [if_pos (by omega)], by rw [if_pos h], Road.w64 _ _ (by omega) (by omega) (by omega)⟩
    · exact ⟨0, 0, by rw [if_neg (by omega), if_neg (by omega)], by rw [if_neg (by omega), if_neg (by omega)], Road.w64 _ _ (by omega) (by omega) (by omega)⟩
    · exact ⟨1, -1, by rw [if_neg (by omega), if_pos (by omega)], by rw [if_neg (by omega), if_pos h], Road.w64 _ _ (by omega) (by omega) (by omega)⟩
  rw [← hr]
  clear hr
  have HC := Aside0.mk (And.intro hc hn)
  clear hI hJ hc hn
  go_enter Tryd.func66, Tryd.ntmps66
  go_wp2_with fail
  refine HI.out.1.mono ?_
  rintro e w1 ⟨rfl, rfl⟩
  go_wp2_with fail
  refine HI.out.2.mono ?_
  rintro e w2 ⟨rfl, rfl⟩
  go_wp2_with fail
  refine (compare_calls _ _ _).mono ?_
  rintro e w3 ⟨rfl, rfl⟩
  rw [← HC.out.1]
  go_wp2_with fail
  go_ret
  first | exact ⟨rfl, rfl⟩ | (refine ⟨?_, rfl⟩; rw [← HC.out.2]; rfl)
theorem len_calls (x : Int) (w : World) (h0 : 0 ≤ x) (h1 : x ≤ 18446744073709551615) : Calls Tryd.prog 80 #[.int .u64 x] w fun e w' => (∃ v, e = .returned (.int .i64 v)) ∧ w' = w := by
  have HL := Aside0.mk (_root_.Go.Proofs.YtjhdnapgdajllaaDoor.SetLenW.len64_calls x w h0 h1)
  clear h0 h1
  go_enter Tryd.func80, Tryd.ntmps80
  go_wp2_with fail
  refine HL.out.mono ?_
  rintro e w1 ⟨rfl, rfl⟩
  go_wp2_with fail
  go_ret
  exact ⟨⟨_, rfl⟩, rfl⟩

end Go.Proofs.YtjhdnapgdajllaaDoor.SetUnionW
