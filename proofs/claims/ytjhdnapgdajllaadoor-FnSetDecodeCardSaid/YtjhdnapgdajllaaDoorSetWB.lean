/- WALKS: a set of numbers (avl.SequenceSet): taken out, walked; what its trees stand for. -/
import Derived.Test.YtjhdnapgdajllaaDoorProg
import Derived.Below
import Derived.Deep.Draws
import Derived.Deep.AppendLies
import Derived.Maps.AppendAt
import Derived.OwnWalk
import Derived.Laws.BytesArg
import Derived.Laws.MakeOwn
import Derived.Laws.OwnMore
import Derived.Deep.OwnRows
import Derived.Tactics
import Derived.Lib.ConvBytes
import Derived.Laws.Slices
import Derived.WalkKit
import Derived.KernelRfl
import Derived.RowKit3
import Derived.Deep.LoopGhost
import Derived.Deep.QuietTactic
import Derived.BigQuiet
import Derived.WideLaws
import Derived.Deep.DeepCutAuto
import Derived.Deep.CutBlock
import Derived.Deep.RegionHeld3
import Derived.Laws.Rows
import Derived.Lib.AppendStr
import Derived.ArgAppend
import Derived.Laws.IdiomCopy
import Derived.OrdersHeld
import Derived.Laws.BitsLemmas
import Derived.RowKit
import Derived.Test.YtjhdnapgdajllaaDoorWWords
import Derived.Test.YtjhdnapgdajllaaDoorWLast
import Derived.Test.YtjhdnapgdajllaaDoorWTab
import Derived.Test.YtjhdnapgdajllaaDoorWFour
import Derived.Test.YtjhdnapgdajllaaDoorWQPut
import Derived.Test.YtjhdnapgdajllaaDoorWApart
import Derived.Test.YtjhdnapgdajllaaDoorWArr
import Derived.Test.YtjhdnapgdajllaaDoorWZeros
import Derived.Test.YtjhdnapgdajllaaDoorWFoot
import Derived.Test.YtjhdnapgdajllaaDoorWKept
import Derived.Test.YtjhdnapgdajllaaDoorWShare
import Derived.Test.YtjhdnapgdajllaaDoorWN
import Derived.Test.YtjhdnapgdajllaaDoorWFootNe
import Derived.Test.YtjhdnapgdajllaaDoorWAt
import Derived.Test.YtjhdnapgdajllaaDoorWEqStruct
import Derived.Test.YtjhdnapgdajllaaDoorWRepsOne
import Derived.Test.YtjhdnapgdajllaaDoorWInv
import Derived.Test.YtjhdnapgdajllaaDoorWInvWords
import Derived.Test.YtjhdnapgdajllaaDoorWGuard
import Derived.Test.YtjhdnapgdajllaaDoorWNEv
import Derived.Test.YtjhdnapgdajllaaDoorWMore
import Derived.Test.YtjhdnapgdajllaaDoorSetWA
import Derived.Test.YtjhdnapgdajllaaDoorRoad
import Derived.Test.YtjhdnapgdajllaaDoorRunes
import Derived.Lib.EndianBits
import Derived.Stop.LaidErr
import Derived.RegionTactic
import Derived.StillTailTactics
import Derived.Laws.CopyRow
import Derived.Laws.CopyOwn
import Derived.Shelf.Spec.TrailingZeros
namespace Go.Proofs.YtjhdnapgdajllaaDoor.SetW
open Go.RowKit Go.Proofs.YtjhdnapgdajllaaDoorW.PrintWords Go.Proofs.YtjhdnapgdajllaaDoorW.PrintLast Go.Proofs.YtjhdnapgdajllaaDoorW.PrintMore
attribute [local go_sem] max2_int min2_int max_two min_two max_three min_three max_four min_four   -- for this text's walks alone
set_option linter.unusedVariables false
set_option linter.unusedSimpArgs false



/-- Two sides put together. -/
def joinT : Tr → Tr → Tr
  | .nil, r => r
  | .node g b bs x y h, .nil => .node g b bs x y h
  | .node g b bs x y h, .node g2 b2 bs2 x2 y2 h2 => prevT (.node g b bs x y h) (.node g2 b2 bs2 x2 y2 h2)
def reT : Tr → Tr
  | .nil => .nil
  | .node g b bs l r _ => balT g b bs l r
/-- Is a node taken out? -/
def delN (s : Nat) : Tr → Bool
  | .nil => false
  | .node _ b bs l r _ => if s < b then delN s l else if b + 2048 ≤ s then delN s r else hasB bs (s - b) && zeroB (clrB bs (s - b))
def delT (s : Nat) : Tr → Tr
  | .nil => .nil
  | .node g b bs l r h =>
    if s < b then (if delN s l = true then balT g b bs (delT s l) r else .node g b bs (delT s l) r h)
    else if b + 2048 ≤ s then (if delN s r = true then balT g b bs l (delT s r) else .node g b bs l (delT s r) h)
    else if (hasB bs (s - b) && zeroB (clrB bs (s - b))) = true then reT (joinT l r)
    else .node g b (if hasB bs (s - b) = true then clrB bs (s - b) else bs) l r h
theorem joinT_bl : ∀ l r : Tr, (joinT l r).bl.Perm (l.bl ++ r.bl)
  | .nil, r => List.Perm.refl _
  | .node g b bs x y h, .nil => by rw [joinT, show Tr.nil.bl = [] from rfl, List.append_nil]
  | .node g b bs x y h, .node g2 b2 bs2 x2 y2 h2 => (prevT_bl _ _).trans List.perm_append_comm
theorem joinT_sz : ∀ l r : Tr, (joinT l r).sz = l.sz + r.sz
  | .nil, r => by simp [joinT, Tr.sz]
  | .node g b bs x y h, .nil => rfl
  | .node g b bs x y h, .node g2 b2 bs2 x2 y2 h2 => by rw [joinT, prevT_sz]; omega
theorem joinT_good : ∀ l r : Tr, l.good → r.good → (joinT l r).good
  | .nil, r, _, h => h
  | .node g b bs x y h, .nil, hh, _ => hh
  | .node g b bs x y h, .node g2 b2 bs2 x2 y2 h2, h1, h3 => prevT_good _ h1 _ h3
theorem reT_bl : ∀ t : Tr, (reT t).bl.Perm t.bl
  | .nil => List.Perm.refl _
  | .node g b bs l r h => balT_bl _ _ _ _ _
theorem reT_sz : ∀ t : Tr, (reT t).sz = t.sz
  | .nil => rfl
  | .node g b bs l r h => balT_sz _ _ _ _ _
theorem reT_good : ∀ t : Tr, t.good → (reT t).good
  | .nil, h => h
  | .node g b bs l r h, hg => balT_good _ _ _ _ _ hg.2.1 hg.2.2
theorem delT_bl (s : Nat) : ∀ t : Tr, ∃ L, ((delT s t).bl ++ L).Perm t.bl
  | .nil => ⟨[], List.Perm.refl _⟩
  | .node g b bs l r h => by
    obtain ⟨L1, h1⟩ := delT_bl s l
    obtain ⟨L2, h2⟩ := delT_bl s r
    have left : (g :: ((delT s l).bl ++ r.bl) ++ L1).Perm (g :: (l.bl ++ r.bl)) := by
      refine List.Perm.trans ?_ ((h1.append_right r.bl).cons g)
      rw [List.perm_iff_count]
      intro x
      simp only [List.count_cons, List.count_append, List.cons_append]
      omega
    have right : (g :: (l.bl ++ (delT s r).bl) ++ L2).Perm (g :: (l.bl ++ r.bl)) := by
      refine List.Perm.trans ?_ ((h2.append_left l.bl).cons g)
      rw [List.perm_iff_count]
      intro x
      simp only [List.count_cons, List.count_append, List.cons_append]
      omega
    unfold delT
    split
    · refine ⟨L1, List.Perm.trans (List.Perm.append_right _ ?_) left⟩
      split
      · exact balT_bl _ _ _ _ _
      · exact List.Perm.refl _
    · split
      · refine ⟨L2, List.Perm.trans (List.Perm.append_right _ ?_) right⟩
        split
        · exact balT_bl _ _ _ _ _
        · exact List.Perm.refl _
      · split
        · refine ⟨[g], (List.Perm.append_right _ ((reT_bl _).trans (joinT_bl l r))).trans ?_⟩
          exact List.perm_append_comm
        · exact ⟨[], by rw [List.append_nil]; exact List.Perm.refl _⟩
theorem delT_sub (s : Nat) (t : Tr) : ∀ x ∈ (delT s t).bl, x ∈ t.bl := by
  intro x hx
  obtain ⟨L, h⟩ := delT_bl s t
  exact h.subset (List.mem_append_left _ hx)
theorem delT_nodup (s : Nat) (t : Tr) (h : t.bl.Nodup) : (delT s t).bl.Nodup := by
  obtain ⟨L, h1⟩ := delT_bl s t
  exact (List.nodup_append.1 (h1.nodup_iff.2 h)).1
theorem delT_sz (s : Nat) : ∀ t : Tr, (delT s t).sz + (if delN s t = true then 1 else 0) = t.sz
  | .nil => rfl
  | .node g b bs l r h => by
    have ihl := delT_sz s l
    have ihr := delT_sz s r
    rw [delT, delN]
    by_cases c1 : s < b
    · rw [if_pos c1, if_pos c1]
      by_cases e : delN s l = true
      · rw [if_pos e] at ihl ⊢; rw [if_pos e, balT_sz]; simp only [Tr.sz]; omega
      · rw [if_neg e] at ihl ⊢; rw [if_neg e]; simp only [Tr.sz]; omega
    · rw [if_neg c1, if_neg c1]
      by_cases c2 : b + 2048 ≤ s
      · rw [if_pos c2, if_pos c2]
        by_cases e : delN s r = true
        · rw [if_pos e] at ihr ⊢; rw [if_pos e, balT_sz]; simp only [Tr.sz]; omega
        · rw [if_neg e] at ihr ⊢; rw [if_neg e]; simp only [Tr.sz]; omega
      · rw [if_neg c2, if_neg c2]
        by_cases e : (hasB bs (s - b) && zeroB (clrB bs (s - b))) = true
        · rw [if_pos e, if_pos e, reT_sz, joinT_sz]; rfl
        · rw [if_neg e, if_neg e]; rfl
theorem delT_ht (s : Nat) : ∀ t : Tr, delN s t = false → (delT s t).ht = t.ht
  | .nil, _ => rfl
  | .node g b bs l r h, hd => by
    unfold delN at hd
    unfold delT
    by_cases c1 : s < b
    · rw [if_pos c1] at hd ⊢
      rw [hd, if_neg (by simp)]
      rfl
    · rw [if_neg c1] at hd ⊢
      by_cases c2 : b + 2048 ≤ s
      · rw [if_pos c2] at hd ⊢
        rw [hd, if_neg (by simp)]
        rfl
      · rw [if_neg c2] at hd ⊢
        rw [hd, if_neg (by simp)]
        rfl
theorem delT_good (s : Nat) : ∀ t : Tr, t.good → (delT s t).good
  | .nil, h => h
  | .node g b bs l r h, hg => by
    have ihl := delT_good s l hg.2.1
    have ihr := delT_good s r hg.2.2
    unfold delT
    split
    · split
      · exact balT_good _ _ _ _ _ ihl hg.2.2
      · rename_i e
        refine ⟨?_, ihl, hg.2.2⟩
        rw [hg.1]
        show mH (.node g b bs l r h) + 1 = (if r.ht < (delT s l).ht then (delT s l).ht else r.ht) + 1
        rw [delT_ht s l (by simpa using e)]
        rfl
    · split
      · split
        · exact balT_good _ _ _ _ _ hg.2.1 ihr
        · rename_i e
          refine ⟨?_, hg.2.1, ihr⟩
          rw [hg.1]
          show mH (.node g b bs l r h) + 1 = (if (delT s r).ht < l.ht then l.ht else (delT s r).ht) + 1
          rw [delT_ht s r (by simpa using e)]
          rfl
      · split
        · exact reT_good _ (joinT_good _ _ hg.2.1 hg.2.2)
        · exact hg
theorem clr_chg {SS g b : Nat} {bs : List Nat} {l r : Tr} {h : Int} {w w' : World} (c : Chg [g, SS] w w') : Chg (SS :: (Tr.node g b bs l r h).bl) w w' :=
  c.mono (fun x hx => by
    rcases List.mem_cons.1 hx with rfl | hx
    · exact List.mem_cons_of_mem _ List.mem_cons_self
    · rw [List.mem_singleton.1 hx]; exact List.mem_cons_self)
set_option maxHeartbeats 16000000 in
set_option maxRecDepth 100000 in
theorem delete_calls (s SS : Nat) (R : Value) (sz nn : Int) (ch : Bool) (hs : s < 18446744073709551616) (hnn : 0 ≤ nn ∧ nn ≤ 1000000) : ∀ (t : Tr) (w : World), t.at w → t.bl.Nodup → t.good → t.sz ≤ 10000 → t.fit → w.heap[SS]? = some (.cells (ssC R sz nn ch) 84 (0, 0)) → SS ∉ t.bl →
    Calls Tryd.prog 72 #[t.p, .int .u64 (s : Int), .pointer (some ⟨SS, 3, none⟩), .pointer (some ⟨SS, 2, none⟩)] w fun e w' => e = .returned ((delT s t).p) ∧ (delT s t).at w' ∧ w'.heap[SS]? = some (.cells (ssC R sz (nn - if delN s t = true then 1 else 0) (if inT s t = true then true else ch)) 84 (0, 0)) ∧ Chg (SS :: t.bl) w w' := by
  intro t
  induction t with
  | nil =>
    intro w ha hnd hg hsz hf hS hSS
    show Calls Tryd.prog 72 #[.pointer none, .int .u64 (s : Int), .pointer (some ⟨SS, 3, none⟩), .pointer (some ⟨SS, 2, none⟩)] w fun e w' => e = .returned (.pointer none) ∧ True ∧ w'.heap[SS]? = some (.cells (ssC R sz (nn - 0) ch) 84 (0, 0)) ∧ Chg [SS] w w'
    have HSB := Aside0.mk hS
    clear ha hnd hg hsz hf hS hSS hs hnn
    go_enter Tryd.func72, Tryd.ntmps72
    go_wp2_with fail
    go_ret
    exact ⟨rfl, trivial, by rw [Int.sub_zero]; exact HSB.out, Chg.refl _ _⟩
  | node g0 b0 bs0 l0 r0 k0 ihl ihr =>
    intro w ha hnd hg hsz hf hS hSS
    show Calls Tryd.prog 72 #[.pointer (some ⟨g0, 0, none⟩), .int .u64 (s : Int), .pointer (some ⟨SS, 3, none⟩), .pointer (some ⟨SS, 2, none⟩)] w _
    obtain ⟨ch2, hc2⟩ : ∃ z : Bool, z = if inT s (Tr.node g0 b0 bs0 l0 r0 k0) = true then true else ch := ⟨_, rfl⟩
    obtain ⟨nn2, hn2⟩ : ∃ z : Int, z = nn - if delN s (Tr.node g0 b0 bs0 l0 r0 k0) = true then 1 else 0 := ⟨_, rfl⟩
    rw [← hc2, ← hn2]
    have HC2 := Aside0.mk hc2
    have HN2 := Aside0.mk hn2
    clear hc2 hn2
    have k1 := nd_base ha.2.1
    have kl := nd_l ha.2.1 ha.1
    have kr := nd_r ha.2.1 ha.1
    have ks : w.cell? ⟨SS, 2, none⟩ = some (.int .i64 nn) := (cell_of_row w SS 2 _ _ _ hS).trans rfl
    have hb2 : IntKind.u64.wrap ((b0 : Int) + 2048) = ((b0 + 2048 : Nat) : Int) := Road.wu64 _ _ (by omega) (by omega) (by have := hf.1; omega)
    obtain ⟨b2, hbb⟩ : ∃ b2, b2 = b0 + 2048 := ⟨_, rfl⟩
    rw [← hbb] at hb2
    have nd := List.nodup_cons.1 hnd
    have nd2 := List.nodup_append.1 nd.2
    have hsg : SS ≠ g0 := fun e => hSS (by rw [e]; exact List.mem_cons_self)
    have hsl : SS ∉ l0.bl := fun e => hSS (List.mem_cons_of_mem _ (List.mem_append_left _ e))
    have hsr : SS ∉ r0.bl := fun e => hSS (List.mem_cons_of_mem _ (List.mem_append_right _ e))
    have hzz : l0.sz + r0.sz + 1 ≤ 10000 := hsz
    have HT := Aside0.mk (And.intro ha (And.intro nd (And.intro nd2 (And.intro hg (And.intro hzz (And.intro hf (And.intro hS (And.intro hsg (And.intro hsl hsr)))))))))
    have HBB := Aside0.mk hbb
    have HHS := Aside0.mk hs
    have HNN := Aside0.mk hnn
    have HSZ := Aside0.mk hnd
    -- what each way gives
    have HM : Aside0 ((∀ w1 : World, (delT s l0).at w1 → w1.heap[SS]? = some (.cells (ssC R sz (nn - if delN s l0 = true then 1 else 0) (if inT s l0 = true then true else ch)) 84 (0, 0)) → Chg (SS :: l0.bl) w w1 → s < b0 →
          w1.heap[g0]? = some (.cells (cellsN b0 bs0 l0.p r0.p k0) 88 (0, 0)) ∧ Aside0 (delT s (Tr.node g0 b0 bs0 l0 r0 k0) = if (delN s l0) = true then reT (Tr.node g0 b0 bs0 (delT s l0) r0 k0) else (Tr.node g0 b0 bs0 (delT s l0) r0 k0)) ∧ Aside0 ((Tr.node g0 b0 bs0 (delT s l0) r0 k0).at (w1.setRow g0 (cellsN b0 bs0 (delT s l0).p r0.p k0)) ∧ (Tr.node g0 b0 bs0 (delT s l0) r0 k0).bl.Nodup ∧ (Tr.node g0 b0 bs0 (delT s l0) r0 k0).gs ∧ (Tr.node g0 b0 bs0 (delT s l0) r0 k0).sz ≤ 10001) ∧ Aside0 ((w1.setRow g0 (cellsN b0 bs0 (delT s l0).p r0.p k0)).heap[SS]? = some (.cells (ssC R sz (nn - if (delN s l0) = true then 1 else 0) ch2) 84 (0, 0))) ∧ Aside0 (Chg (SS :: (Tr.node g0 b0 bs0 l0 r0 k0).bl) w (w1.setRow g0 (cellsN b0 bs0 (delT s l0).p r0.p k0))) ∧ Aside0 (SS ∉ (Tr.node g0 b0 bs0 (delT s l0) r0 k0).bl ∧ ∀ x ∈ (Tr.node g0 b0 bs0 (delT s l0) r0 k0).bl, x ∈ (Tr.node g0 b0 bs0 l0 r0 k0).bl) ∧ Aside0 ((delN s l0) = delN s (Tr.node g0 b0 bs0 l0 r0 k0))) ∧
        (∀ w1 : World, (delT s r0).at w1 → w1.heap[SS]? = some (.cells (ssC R sz (nn - if delN s r0 = true then 1 else 0) (if inT s r0 = true then true else ch)) 84 (0, 0)) → Chg (SS :: r0.bl) w w1 → ¬ s < b0 → b0 + 2048 ≤ s →
          w1.heap[g0]? = some (.cells (cellsN b0 bs0 l0.p r0.p k0) 88 (0, 0)) ∧ Aside0 (delT s (Tr.node g0 b0 bs0 l0 r0 k0) = if (delN s r0) = true then reT (Tr.node g0 b0 bs0 l0 (delT s r0) k0) else (Tr.node g0 b0 bs0 l0 (delT s r0) k0)) ∧ Aside0 ((Tr.node g0 b0 bs0 l0 (delT s r0) k0).at (w1.setRow g0 (cellsN b0 bs0 l0.p (delT s r0).p k0)) ∧ (Tr.node g0 b0 bs0 l0 (delT s r0) k0).bl.Nodup ∧ (Tr.node g0 b0 bs0 l0 (delT s r0) k0).gs ∧ (Tr.node g0 b0 bs0 l0 (delT s r0) k0).sz ≤ 10001) ∧ Aside0 ((w1.setRow g0 (cellsN b0 bs0 l0.p (delT s r0).p k0)).heap[SS]? = some (.cells (ssC R sz (nn - if (delN s r0) = true then 1 else 0) ch2) 84 (0, 0))) ∧ Aside0 (Chg (SS :: (Tr.node g0 b0 bs0 l0 r0 k0).bl) w (w1.setRow g0 (cellsN b0 bs0 l0.p (delT s r0).p k0))) ∧ Aside0 (SS ∉ (Tr.node g0 b0 bs0 l0 (delT s r0) k0).bl ∧ ∀ x ∈ (Tr.node g0 b0 bs0 l0 (delT s r0) k0).bl, x ∈ (Tr.node g0 b0 bs0 l0 r0 k0).bl) ∧ Aside0 ((delN s r0) = delN s (Tr.node g0 b0 bs0 l0 r0 k0))) ∧
        True) := by
      refine ⟨?_, ?_, trivial⟩
      · intro w1 a1 s1 c1 c
        have sub := delT_sub s l0
        have q1 : w1.heap[g0]? = _ := (c1.keep g0 (Array.getElem?_eq_some_iff.1 ha.2.1).1 (fun hh => (List.mem_cons.1 hh).elim (fun e => hsg e.symm) (fun e => nd.1 (List.mem_append_left _ e)))).trans ha.2.1
        have ar : r0.at w1 := at_keep c1 r0 ha.2.2.2 (fun y hy hh => (List.mem_cons.1 hh).elim (fun e => hsr (e ▸ hy)) (fun e => nd2.2.2 y e y hy rfl))
        have gnl : g0 ∉ (delT s l0).bl := fun hh => nd.1 (List.mem_append_left _ (sub g0 hh))
        have c6 := Chg.row w1 g0 (cellsN b0 bs0 (delT s l0).p r0.p k0)
        refine ⟨q1, ⟨?_⟩, ⟨⟨ha.1, setRow_heap _ _ _ _ _ _ q1, at_keep c6 _ a1 (fun y hy => by simp; rintro rfl; exact gnl hy), at_keep c6 _ ar (fun y hy => by simp; rintro rfl; exact nd.1 (List.mem_append_right _ hy))⟩, ?_, ⟨delT_good _ _ hg.2.1, hg.2.2⟩, ?_⟩, ⟨?_⟩, ⟨?_⟩, ⟨?_, ?_⟩, ⟨?_⟩⟩
        · rw [delT, if_pos c]
          rfl
        · refine List.nodup_cons.2 ⟨fun hh => (List.mem_append.1 hh).elim gnl (fun e => nd.1 (List.mem_append_right _ e)), List.nodup_append.2 ⟨delT_nodup _ _ nd2.1, nd2.2.1, fun x hx y hy => nd2.2.2 x (sub x hx) y hy⟩⟩
        · have := delT_sz s l0
          show (delT s l0).sz + r0.sz + 1 ≤ 10001
          omega
        · rw [setRow_other _ _ _ _ hsg, s1, HC2.out, inT, if_pos c]
        · exact c1.trans c6 (fun x hx => (List.mem_cons.1 hx).elim (fun e => by rw [e]; exact List.mem_cons_self) (fun e => List.mem_cons_of_mem _ (List.mem_cons_of_mem _ (List.mem_append_left _ e)))) (fun x hx _ => by rw [List.mem_singleton.1 hx]; exact List.mem_cons_of_mem _ List.mem_cons_self)
        · exact fun hh => (List.mem_cons.1 hh).elim hsg (fun e => (List.mem_append.1 e).elim (fun e => hsl (sub _ e)) hsr)
        · intro x hx
          rcases List.mem_cons.1 hx with rfl | hx
          · exact List.mem_cons_self
          · rcases List.mem_append.1 hx with e | e
            · exact List.mem_cons_of_mem _ (List.mem_append_left _ (sub x e))
            · exact List.mem_cons_of_mem _ (List.mem_append_right _ e)
        · rw [delN, if_pos c]
      · intro w1 a1 s1 c1 c c2
        have sub := delT_sub s r0
        have q1 : w1.heap[g0]? = _ := (c1.keep g0 (Array.getElem?_eq_some_iff.1 ha.2.1).1 (fun hh => (List.mem_cons.1 hh).elim (fun e => hsg e.symm) (fun e => nd.1 (List.mem_append_right _ e)))).trans ha.2.1
        have ar : l0.at w1 := at_keep c1 l0 ha.2.2.1 (fun y hy hh => (List.mem_cons.1 hh).elim (fun e => hsl (e ▸ hy)) (fun e => nd2.2.2 y hy y e rfl))
        have gnl : g0 ∉ (delT s r0).bl := fun hh => nd.1 (List.mem_append_right _ (sub g0 hh))
        have c6 := Chg.row w1 g0 (cellsN b0 bs0 l0.p (delT s r0).p k0)
        refine ⟨q1, ⟨?_⟩, ⟨⟨ha.1, setRow_heap _ _ _ _ _ _ q1, at_keep c6 _ ar (fun y hy => by simp; rintro rfl; exact nd.1 (List.mem_append_left _ hy)), at_keep c6 _ a1 (fun y hy => by simp; rintro rfl; exact gnl hy)⟩, ?_, ⟨hg.2.1, delT_good _ _ hg.2.2⟩, ?_⟩, ⟨?_⟩, ⟨?_⟩, ⟨?_, ?_⟩, ⟨?_⟩⟩
        · rw [delT, if_neg c, if_pos c2]
          rfl
        · refine List.nodup_cons.2 ⟨fun hh => (List.mem_append.1 hh).elim (fun e => nd.1 (List.mem_append_left _ e)) gnl, List.nodup_append.2 ⟨nd2.1, delT_nodup _ _ nd2.2.1, fun x hx y hy => nd2.2.2 x hx y (sub y hy)⟩⟩
        · have := delT_sz s r0
          show l0.sz + (delT s r0).sz + 1 ≤ 10001
          omega
        · rw [setRow_other _ _ _ _ hsg, s1, HC2.out, inT, if_neg c, if_pos c2]
        · exact c1.trans c6 (fun x hx => (List.mem_cons.1 hx).elim (fun e => by rw [e]; exact List.mem_cons_self) (fun e => List.mem_cons_of_mem _ (List.mem_cons_of_mem _ (List.mem_append_right _ e)))) (fun x hx _ => by rw [List.mem_singleton.1 hx]; exact List.mem_cons_of_mem _ List.mem_cons_self)
        · exact fun hh => (List.mem_cons.1 hh).elim hsg (fun e => (List.mem_append.1 e).elim hsl (fun e => hsr (sub _ e)))
        · intro x hx
          rcases List.mem_cons.1 hx with rfl | hx
          · exact List.mem_cons_self
          · rcases List.mem_append.1 hx with e | e
            · exact List.mem_cons_of_mem _ (List.mem_append_left _ e)
            · exact List.mem_cons_of_mem _ (List.mem_append_right _ (sub x e))
        · rw [delN, if_neg c, if_pos c2]
    clear ha hnd hg hsz hf hS hSS hbb hs hnn nd nd2 hsg hsl hsr hzz
    go_enter Tryd.func72, Tryd.ntmps72
    go_upto_if 22 with fail
    go_cut [0] from 10 (fun v0 wx => ∃ (U : Tr) (rm : Bool), v0 = .pointer U.pp ∧ Aside0 (delT s (Tr.node g0 b0 bs0 l0 r0 k0) = if rm = true then reT U else U) ∧ Aside0 (U.at wx ∧ U.bl.Nodup ∧ U.gs ∧ U.sz ≤ 10001) ∧ Aside0 (wx.heap[SS]? = some (.cells (ssC R sz (nn - if rm = true then 1 else 0) ch2) 84 (0, 0))) ∧ Aside0 (Chg (SS :: (Tr.node g0 b0 bs0 l0 r0 k0).bl) w wx) ∧ Aside0 (SS ∉ U.bl ∧ ∀ x ∈ U.bl, x ∈ (Tr.node g0 b0 bs0 l0 r0 k0).bl) ∧ Aside0 (rm = delN s (Tr.node g0 b0 bs0 l0 r0 k0)))
    case first =>
      by_cases c : s < b0
      ·
        have c' : decide ((s : Int) < (b0 : Int)) = true := decide_eq_true (by omega)
        have c'' : decide (s < b0) = true := decide_eq_true c
        rw [c'']
        have HC := Aside0.mk c
        clear c
        replace kl : w.cell? ⟨g0, 33, none⟩ = some (.pointer l0.pp) := kl
        have fl := nd_free HT.out.1.2.1 33
        go_wp2_with fail
        refine (ihl w HT.out.1.2.2.1 HT.out.2.2.1.1 HT.out.2.2.2.1.2.1 (by have := HT.out.2.2.2.2.1; omega) HT.out.2.2.2.2.2.1.2.2.1 HT.out.2.2.2.2.2.2.1 HT.out.2.2.2.2.2.2.2.2.1).mono ?_
        rintro e w1 ⟨rfl, a1, s1, c1⟩
        have hm := HM.out.1 w1 a1 s1 c1 HC.out
        have HM2 := Aside0.mk hm
        have cl1 := nd_l hm.1 HT.out.1.1
        have fl1 := nd_free hm.1 33
        obtain ⟨Y, hY⟩ : ∃ Y, Y = (delT s l0).pp := ⟨_, rfl⟩
        rw [show (delT s l0).p = .pointer Y by rw [hY]]
        have HY := Aside0.mk hY
        clear hm a1 s1 c1 hY kl fl
        go_wp2_with fail
        go_meet
        rw [show (Value.pointer Y) = (delT s l0).p by rw [HY.out], nd_setL HM2.out.1 HT.out.1.1]
        exact ⟨_, _, rfl, HM2.out.2⟩
      · have c' : decide ((s : Int) < (b0 : Int)) = false := decide_eq_false (by omega)
        have c'' : decide (s < b0) = false := decide_eq_false c
        by_cases c2 : b0 + 2048 ≤ s
        ·
          have d' : decide ((b2 : Int) ≤ (s : Int)) = true := decide_eq_true (by have := HBB.out; omega)
          have d'' : decide (b2 ≤ s) = true := decide_eq_true (by have := HBB.out; omega)
          rw [c'']
          have HC := Aside0.mk (And.intro c c2)
          clear c c2
          replace kr : w.cell? ⟨g0, 34, none⟩ = some (.pointer r0.pp) := kr
          have fl := nd_free HT.out.1.2.1 34
          go_wp2_with fail
          refine (ihr w HT.out.1.2.2.2 HT.out.2.2.1.2.1 HT.out.2.2.2.1.2.2 (by have := HT.out.2.2.2.2.1; omega) HT.out.2.2.2.2.2.1.2.2.2 HT.out.2.2.2.2.2.2.1 HT.out.2.2.2.2.2.2.2.2.2).mono ?_
          rintro e w1 ⟨rfl, a1, s1, c1⟩
          have hm := HM.out.2.1 w1 a1 s1 c1 HC.out.1 HC.out.2
          have HM2 := Aside0.mk hm
          have cl1 := nd_r hm.1 HT.out.1.1
          have fl1 := nd_free hm.1 34
          obtain ⟨Y, hY⟩ : ∃ Y, Y = (delT s r0).pp := ⟨_, rfl⟩
          rw [show (delT s r0).p = .pointer Y by rw [hY]]
          have HY := Aside0.mk hY
          clear hm a1 s1 c1 hY kr fl
          go_wp2_with fail
          go_meet
          rw [show (Value.pointer Y) = (delT s r0).p by rw [HY.out], nd_setR HM2.out.1 HT.out.1.1]
          exact ⟨_, _, rfl, HM2.out.2⟩
        · have d' : decide ((b2 : Int) ≤ (s : Int)) = false := decide_eq_false (by have := HBB.out; omega)
          have d'' : decide (b2 ≤ s) = false := decide_eq_false (by have := HBB.out; omega)
          rw [c'']
          have HC := Aside0.mk (And.intro c c2)
          clear c c2
          go_wp2_with fail
          refine (clear_calls g0 b0 bs0 l0.p r0.p k0 SS R sz nn ch s w HT.out.1.1 HT.out.1.2.1 HT.out.2.2.2.2.2.2.1 HT.out.2.2.2.2.2.2.2.1.symm (by have := HC.out.1; omega) (by have := HC.out.2; omega) HHS.out HT.out.2.2.2.2.2.1.2.1 (hasB bs0 (s - b0)) rfl).mono ?_
          rintro e w1 ⟨rfl, g1, s1, c1⟩
          obtain ⟨em, hem⟩ : ∃ em, em = (hasB bs0 (s - b0) && zeroB (clrB bs0 (s - b0))) := ⟨_, rfl⟩
          rw [← hem]
          have H1 := Aside0.mk (And.intro g1 (And.intro s1 c1))
          have HEM := Aside0.mk hem
          clear g1 s1 c1 hem
          cases em with
          | false =>
            go_wp2_with fail
            go_meet
            obtain ⟨ha, nd, nd2, hg, hzz, hf, hS, hsg, hsl, hsr⟩ := HT.out
            obtain ⟨g1, s1, c1⟩ := H1.out
            have c := HC.out.1
            have c2 := HC.out.2
            have hl32 : (if hasB bs0 (s - b0) = true then clrB bs0 (s - b0) else bs0).length = 32 := by
              split
              · rw [clrB, List.length_set]; exact ha.1
              · exact ha.1
            refine ⟨.node g0 b0 (if hasB bs0 (s - b0) = true then clrB bs0 (s - b0) else bs0) l0 r0 k0, false, rfl, ⟨?_⟩, ⟨⟨hl32, g1, at_keep c1 l0 ha.2.2.1 (fun y hy hh => ?_), at_keep c1 r0 ha.2.2.2 (fun y hy hh => ?_)⟩, HSZ.out, ⟨hg.2.1, hg.2.2⟩, by show l0.sz + r0.sz + 1 ≤ 10001; omega⟩, ⟨?_⟩, ⟨c1.mono (fun x hx => ?_)⟩, ⟨?_, fun x hx => hx⟩, ⟨?_⟩⟩
            · rw [delT, if_neg c, if_neg c2, ← HEM.out]
              rfl
            · rcases List.mem_cons.1 hh with rfl | hh
              · exact nd.1 (List.mem_append_left _ hy)
              · rw [List.mem_singleton.1 hh] at hy; exact hsl hy
            · rcases List.mem_cons.1 hh with rfl | hh
              · exact nd.1 (List.mem_append_right _ hy)
              · rw [List.mem_singleton.1 hh] at hy; exact hsr hy
            · rw [s1, HC2.out, inT, if_neg c, if_neg c2]
              simp
            · rcases List.mem_cons.1 hx with rfl | hx
              · exact List.mem_cons_of_mem _ List.mem_cons_self
              · rw [List.mem_singleton.1 hx]; exact List.mem_cons_self
            · exact fun hh => (List.mem_cons.1 hh).elim hsg (fun e => (List.mem_append.1 e).elim hsl hsr)
            · rw [delN, if_neg c, if_neg c2]; exact HEM.out
          | true =>
            have hq : hasB bs0 (s - b0) = true := (Bool.and_eq_true_iff.1 HEM.out.symm).1
            obtain ⟨g1, s1, c1⟩ := H1.out
            rw [hq, if_pos rfl] at g1 s1
            have kn1 : w1.cell? ⟨SS, 2, none⟩ = some (.int .i64 nn) := (cell_of_row w1 SS 2 _ _ _ s1).trans rfl
            have fz1 : w1.frozen? ⟨SS, 2, none⟩ = false := by simp [World.frozen?, s1]
            have hE := setCell_eq_setRow w1 SS 2 _ 84 (0, 0) (.int .i64 (wrap64 (nn - 1))) s1
            have ew : wrap64 (nn - 1) = nn - 1 := Road.w64 _ _ rfl (by have := HNN.out; omega) (by have := HNN.out; omega)
            have HQ := Aside0.mk (And.intro hq (And.intro g1 (And.intro s1 (And.intro c1 (And.intro hE ew)))))
            clear H1 g1 s1 c1 hE ew hq
            go_upto_region 11 with fail
            obtain ⟨hq, g1, s1, c1, hE, ew⟩ := HQ.out
            rw [hE]
            obtain ⟨w2, hw2⟩ : ∃ w2, w2 = w1.setRow SS ((ssC R sz nn true).setIfInBounds 2 (.int .i64 (wrap64 (nn - 1)))) := ⟨_, rfl⟩
            rw [← hw2]
            have hsg := HT.out.2.2.2.2.2.2.2.1
            have g2 : w2.heap[g0]? = some (.cells (cellsN b0 (clrB bs0 (s - b0)) l0.p r0.p k0) 88 (0, 0)) := by rw [hw2, setRow_other _ _ _ _ hsg.symm]; exact g1
            have s2 : w2.heap[SS]? = some (.cells (ssC R sz (nn - 1) true) 84 (0, 0)) := by rw [hw2, setRow_heap _ _ _ _ _ _ s1, ew]; rfl
            have c2 : Chg [g0, SS] w w2 := by rw [hw2]; exact c1.trans (Chg.row _ SS _) (fun x h => h) (by simp)
            have hl32 : (clrB bs0 (s - b0)).length = 32 := by rw [clrB, List.length_set]; exact HT.out.1.1
            have kl2 := nd_l g2 hl32
            have kr2 := nd_r g2 hl32
            have al2 : l0.at w2 := at_keep c2 l0 HT.out.1.2.2.1 (fun y hy hh => by
              rcases List.mem_cons.1 hh with rfl | hh
              · exact HT.out.2.1.1 (List.mem_append_left _ hy)
              · rw [List.mem_singleton.1 hh] at hy; exact HT.out.2.2.2.2.2.2.2.2.1 hy)
            have ar2 : r0.at w2 := at_keep c2 r0 HT.out.1.2.2.2 (fun y hy hh => by
              rcases List.mem_cons.1 hh with rfl | hh
              · exact HT.out.2.1.1 (List.mem_append_right _ hy)
              · rw [List.mem_singleton.1 hh] at hy; exact HT.out.2.2.2.2.2.2.2.2.2 hy)
            have H2 := Aside0.mk (And.intro g2 (And.intro s2 (And.intro c2 (And.intro hl32 (And.intro al2 ar2)))))
            -- what the ways give
            have HJ : Aside0 (∀ w3 : World, (joinT l0 r0).at w3 → w3.heap[SS]? = some (.cells (ssC R sz (nn - 1) true) 84 (0, 0)) → Chg (SS :: (Tr.node g0 b0 bs0 l0 r0 k0).bl) w w3 → Aside0 (delT s (Tr.node g0 b0 bs0 l0 r0 k0) = if true = true then reT (joinT l0 r0) else (joinT l0 r0)) ∧ Aside0 ((joinT l0 r0).at w3 ∧ (joinT l0 r0).bl.Nodup ∧ (joinT l0 r0).gs ∧ (joinT l0 r0).sz ≤ 10001) ∧ Aside0 (w3.heap[SS]? = some (.cells (ssC R sz (nn - if true = true then 1 else 0) ch2) 84 (0, 0))) ∧ Aside0 (Chg (SS :: (Tr.node g0 b0 bs0 l0 r0 k0).bl) w w3) ∧ Aside0 (SS ∉ (joinT l0 r0).bl ∧ ∀ x ∈ (joinT l0 r0).bl, x ∈ (Tr.node g0 b0 bs0 l0 r0 k0).bl) ∧ Aside0 (true = delN s (Tr.node g0 b0 bs0 l0 r0 k0))) := by
              refine ⟨fun w3 a3 s3 c3 => ?_⟩
              obtain ⟨ha, nd, nd2, hg, hzz, hf, hS, hsg, hsl, hsr⟩ := HT.out
              have c := HC.out.1
              have cc := HC.out.2
              have jg := joinT_good l0 r0 hg.2.1 hg.2.2
              refine ⟨⟨?_⟩, ⟨a3, (joinT_bl l0 r0).nodup_iff.2 nd.2, ?_, ?_⟩, ⟨?_⟩, ⟨c3⟩, ⟨fun hh => (List.mem_append.1 ((joinT_bl l0 r0).subset hh)).elim hsl hsr, fun x hx => List.mem_cons_of_mem _ ((joinT_bl l0 r0).subset hx)⟩, ⟨?_⟩⟩
              · rw [delT, if_neg c, if_neg cc, ← HEM.out, if_pos rfl, if_pos rfl]
              · cases hj : joinT l0 r0 with
                | nil => trivial
                | node _ _ _ _ _ _ => rw [hj] at jg; exact ⟨jg.2.1, jg.2.2⟩
              · rw [joinT_sz]; omega
              · rw [s3, HC2.out, inT, if_neg c, if_neg cc, hq]
                rfl
              · rw [delN, if_neg c, if_neg cc, ← HEM.out]
            clear HQ g1 s1 c1 hE ew hw2 g2 s2 c2 al2 ar2 hsg hl32 kn1 fz1 hq HEM
            cases l0 with
            | nil =>
              replace kl2 : w2.cell? ⟨g0, 33, none⟩ = some (.pointer none) := kl2
              replace kr2 : w2.cell? ⟨g0, 34, none⟩ = some (.pointer r0.pp) := kr2
              have CL := clr_chg (b := b0) (bs := bs0) (l := .nil) (r := r0) (h := k0) H2.out.2.2.1
              have CLA := Aside0.mk CL
              clear CL ihl ihr HM kl kr
              go_wp2_with fail
              go_meet
              exact ⟨r0, true, rfl, HJ.out w2 H2.out.2.2.2.2.2 H2.out.2.1 CLA.out⟩
            | node gl bl bsl xl yl hl =>
              replace kl2 : w2.cell? ⟨g0, 33, none⟩ = some (.pointer (some ⟨gl, 0, none⟩)) := kl2
              cases r0 with
              | nil =>
                replace kr2 : w2.cell? ⟨g0, 34, none⟩ = some (.pointer none) := kr2
                have CL := clr_chg (b := b0) (bs := bs0) (l := .node gl bl bsl xl yl hl) (r := .nil) (h := k0) H2.out.2.2.1
                have CLA := Aside0.mk CL
                clear CL ihl ihr HM kl kr
                go_wp2_with fail
                go_meet
                exact ⟨_, true, rfl, HJ.out w2 H2.out.2.2.2.2.1 H2.out.2.1 CLA.out⟩
              | node gr br bsr xr yr hr =>
                replace kr2 : w2.cell? ⟨g0, 34, none⟩ = some (.pointer (some ⟨gr, 0, none⟩)) := kr2
                obtain ⟨l0, hl0⟩ : ∃ x, x = Tr.node gl bl bsl xl yl hl := ⟨_, rfl⟩
                obtain ⟨r0, hr0⟩ : ∃ x, x = Tr.node gr br bsr xr yr hr := ⟨_, rfl⟩
                rw [← hl0, ← hr0] at HJ HT H2
                have hjj : joinT l0 r0 = prevT l0 r0 := by rw [hl0, hr0]; rfl
                have hpl : l0.p = .pointer (some ⟨gl, 0, none⟩) := by rw [hl0]; rfl
                have hpr : r0.p = .pointer (some ⟨gr, 0, none⟩) := by rw [hr0]; rfl
                have hpc := prev_calls l0 SS (.cells (ssC R sz (nn - 1) true) 84 (0, 0)) HT.out.2.2.2.1.2.1 r0 w2.drew (by rw [hr0]; simp) (at_keep (Chg_drew w2) r0 H2.out.2.2.2.2.2 (by simp)) (at_keep (Chg_drew w2) l0 H2.out.2.2.2.2.1 (by simp)) (List.perm_append_comm.nodup_iff.1 HT.out.2.1.2) HT.out.2.2.2.1.2.2 (by have := HT.out.2.2.2.2.1; omega) H2.out.2.1 (fun e => (List.mem_append.1 e).elim HT.out.2.2.2.2.2.2.2.2.2 HT.out.2.2.2.2.2.2.2.2.1)
                rw [hpl, hpr] at hpc
                have HPC := Aside0.mk hpc
                have HKK := Aside0.mk (And.intro kl2 kr2)
                have HB4 : Aside0 (∀ w4 : World, w4.heap[SS]? = some (.cells (ssC R sz (nn - 1) true) 84 (0, 0)) → Chg (SS :: (r0.bl ++ l0.bl)) w2.drew w4 → w4.cell? ⟨g0, 33, none⟩ = some (.pointer (some ⟨gl, 0, none⟩)) ∧ w4.cell? ⟨g0, 34, none⟩ = some (.pointer (some ⟨gr, 0, none⟩)) ∧ w4.frozen? ⟨g0, 34, none⟩ = false ∧ w4.heap[g0]? = some (.cells (cellsN b0 (clrB bs0 (s - b0)) l0.p r0.p k0) 88 (0, 0))) := by
                  refine ⟨fun w4 s4 c4 => ?_⟩
                  have q4 : w4.heap[g0]? = _ := (c4.keep g0 (Array.getElem?_eq_some_iff.1 H2.out.1).1 (fun hh => (List.mem_cons.1 hh).elim (fun e => HT.out.2.2.2.2.2.2.2.1 e.symm) (fun e => HT.out.2.1.1 ((List.mem_append.1 e).elim (fun e => List.mem_append_right _ e) (fun e => List.mem_append_left _ e))))).trans H2.out.1
                  refine ⟨?_, ?_, nd_free q4 34, q4⟩
                  · rw [nd_l q4 H2.out.2.2.2.1, hpl]
                  · rw [nd_r q4 H2.out.2.2.2.1, hpr]
                have HJJ := Aside0.mk hjj
                have HLR := Aside0.mk (And.intro hl0 hr0)
                clear hjj hpl hpr hpc hl0 hr0 ihl ihr HM kl kr
                go_wp2_with fail
                refine start_ (n := 13) (S := fun w' => w'.cell? ⟨g0, 33, none⟩ = some (.pointer (some ⟨gl, 0, none⟩)) ∧ w'.cell? ⟨g0, 34, none⟩ = some (.pointer (some ⟨gr, 0, none⟩))) (ds := [12]) #[false, false, false, false, false, false, false, false, false, false, false, false, false] (by kernel_rfl) rfl rfl HKK.out (fun hHeld => ?_)
                refine pure_ (i := 0) (N := some 80) (v := ?_) (a' := ?_) #[true, false, false, false, false, false, false, false, false, false, false, false, false] rfl rfl (by kernel_rfl) (fun _ _ _ h => h) (Or.inl ⟨by rfl, ?_⟩) ?_ ?_
                rotate_left
                · intro w'
                  go_simp
                  with_reducible rfl
                rotate_left
                · simp only [Act.put, List.setIfInBounds_toArray, List.set_cons_zero, List.set_cons_succ, i64_w, i32_w]
                  rfl
                refine pure_ (i := 1) (N := some 81) (v := ?_) (a' := ?_) #[true, true, false, false, false, false, false, false, false, false, false, false, false] rfl rfl (by kernel_rfl) (fun _ _ _ h => h) (Or.inl ⟨by rfl, ?_⟩) ?_ ?_
                rotate_left
                · intro w'
                  go_simp
                  with_reducible rfl
                rotate_left
                · simp only [Act.put, List.setIfInBounds_toArray, List.set_cons_zero, List.set_cons_succ, i64_w, i32_w]
                  rfl
                refine pure_ (i := 2) (N := some 82) (v := ?_) (a' := ?_) #[true, true, true, false, false, false, false, false, false, false, false, false, false] rfl rfl (by kernel_rfl) (fun _ _ _ h => h) (Or.inl ⟨by rfl, ?_⟩) ?_ ?_
                rotate_left
                · intro w'
                  go_simp
                  with_reducible rfl
                rotate_left
                · simp only [Act.put, List.setIfInBounds_toArray, List.set_cons_zero, List.set_cons_succ, i64_w, i32_w]
                  rfl
                refine pure_ (i := 3) (N := some 83) (v := ?_) (a' := ?_) #[true, true, true, true, false, false, false, false, false, false, false, false, false] rfl rfl (by kernel_rfl) (fun _ _ _ h => h) (Or.inl ⟨by rfl, ?_⟩) ?_ ?_
                rotate_left
                · intro w'
                  go_simp
                  with_reducible rfl
                rotate_left
                · simp only [Act.put, List.setIfInBounds_toArray, List.set_cons_zero, List.set_cons_succ, i64_w, i32_w]
                  rfl
                refine take_ (i := 4) (N := some 84) (v := ?_) (a' := ?_) #[true, true, true, true, true, false, false, false, false, false, false, false, false] rfl rfl (by kernel_rfl) (fun _ _ _ h => h) (Or.inl ⟨by rfl, ?_⟩) hHeld ?_ ?_
                rotate_left
                · intro w' hS'
                  obtain ⟨hc1, hc2⟩ := hS'
                  go_simp
                  with_reducible rfl
                rotate_left
                · simp only [Act.put, List.setIfInBounds_toArray, List.set_cons_zero, List.set_cons_succ, i64_w, i32_w]
                  rfl
                refine pure_ (i := 5) (N := some 85) (v := ?_) (a' := ?_) #[true, true, true, true, true, true, false, false, false, false, false, false, false] rfl rfl (by kernel_rfl) (fun _ _ _ h => h) (Or.inl ⟨by rfl, ?_⟩) ?_ ?_
                rotate_left
                · intro w'
                  go_simp
                  with_reducible rfl
                rotate_left
                · simp only [Act.put, List.setIfInBounds_toArray, List.set_cons_zero, List.set_cons_succ, i64_w, i32_w]
                  rfl
                refine pure_ (i := 6) (N := some 86) (v := ?_) (a' := ?_) #[true, true, true, true, true, true, true, false, false, false, false, false, false] rfl rfl (by kernel_rfl) (fun _ _ _ h => h) (Or.inl ⟨by rfl, ?_⟩) ?_ ?_
                rotate_left
                · intro w'
                  go_simp
                  with_reducible rfl
                rotate_left
                · simp only [Act.put, List.setIfInBounds_toArray, List.set_cons_zero, List.set_cons_succ, i64_w, i32_w]
                  rfl
                refine pure_ (i := 7) (N := some 87) (v := ?_) (a' := ?_) #[true, true, true, true, true, true, true, true, false, false, false, false, false] rfl rfl (by kernel_rfl) (fun _ _ _ h => h) (Or.inl ⟨by rfl, ?_⟩) ?_ ?_
                rotate_left
                · intro w'
                  go_simp
                  with_reducible rfl
                rotate_left
                · simp only [Act.put, List.setIfInBounds_toArray, List.set_cons_zero, List.set_cons_succ, i64_w, i32_w]
                  rfl
                refine take_ (i := 8) (N := some 88) (v := ?_) (a' := ?_) #[true, true, true, true, true, true, true, true, true, false, false, false, false] rfl rfl (by kernel_rfl) (fun _ _ _ h => h) (Or.inl ⟨by rfl, ?_⟩) hHeld ?_ ?_
                rotate_left
                · intro w' hS'
                  obtain ⟨hc1, hc2⟩ := hS'
                  go_simp
                  with_reducible rfl
                rotate_left
                · simp only [Act.put, List.setIfInBounds_toArray, List.set_cons_zero, List.set_cons_succ, i64_w, i32_w]
                  rfl
                refine one_ (i := 9) (N := some 89) #[true, true, true, true, true, true, true, true, true, true, false, false, false] rfl rfl (by kernel_rfl) (by decide) (fun K hK => ?_)
                refine goes_ Tryd.func87 (by kernel_rfl) rfl #[.pointer (some ⟨gr, 0, none⟩), .pointer (some ⟨gl, 0, none⟩)] (by rfl) rfl rfl (by simp only [List.map_toArray, List.map_cons, List.map_nil]; rfl) ?_
                refine (HPC.out).mono ?_
                rintro e w4 ⟨rfl, a4, s4, c4⟩
                refine ⟨_, rfl, ?_⟩
                have hk4 := HB4.out w4 s4 c4
                obtain ⟨Y, hY⟩ : ∃ Y, Y = (prevT l0 r0).pp := ⟨_, rfl⟩
                rw [show (prevT l0 r0).p = .pointer Y by rw [hY]]
                refine hK.out _ _ ⟨hk4.1, hk4.2.1⟩ (fun hHeld => ?_)
                clear hK K
                refine norm_ (a' := ?_) ?_ ?_
                rotate_left
                · show Act.put _ (some 89) _ = _
                  simp only [Act.put, List.setIfInBounds_toArray, List.set_cons_zero, List.set_cons_succ, i64_w, i32_w]
                  rfl
                refine pure_ (i := 10) (N := some 90) (v := ?_) (a' := ?_) #[true, true, true, true, true, true, true, true, true, true, true, false, false] rfl rfl (by kernel_rfl) (fun _ _ _ h => h) (Or.inl ⟨by rfl, ?_⟩) ?_ ?_
                rotate_left
                · intro w'
                  go_simp
                  with_reducible rfl
                rotate_left
                · simp only [Act.put, List.setIfInBounds_toArray, List.set_cons_zero, List.set_cons_succ, i64_w, i32_w]
                  rfl
                refine pure_ (i := 11) (N := some 91) (v := ?_) (a' := ?_) #[true, true, true, true, true, true, true, true, true, true, true, true, false] rfl rfl (by kernel_rfl) (fun _ _ _ h => h) (Or.inl ⟨by rfl, ?_⟩) ?_ ?_
                rotate_left
                · intro w'
                  go_simp
                  with_reducible rfl
                rotate_left
                · simp only [Act.put, List.setIfInBounds_toArray, List.set_cons_zero, List.set_cons_succ, i64_w, i32_w]
                  rfl
                have f4 : w4.frozen? ⟨g0, 34, none⟩ = false := hk4.2.2.1
                refine last_ (i := 12) (N := none) #[true, true, true, true, true, true, true, true, true, true, true, true, true] rfl rfl (by kernel_rfl) (by decide) (fun K hK => ?_)
                refine skip_ (w1 := ?_) (by rfl) rfl ?_ ?_
                rotate_left
                · go_simp
                  rfl
                refine hK.out _ _ ?_
                clear hK K
                refine done_ (by kernel_rfl) ?_
                have HK4 := Aside0.mk (And.intro hk4 (And.intro a4 (And.intro s4 (And.intro c4 hY))))
                have HEE := Aside0.mk (nd_setR hk4.2.2.2 H2.out.2.2.2.1 (.pointer Y))
                have k5 : (w4.setCell ⟨g0, 34, none⟩ (.pointer Y)).cell? ⟨g0, 34, none⟩ = some (.pointer Y) := by
                  rw [HEE.out]
                  exact nd_r (setRow_heap _ _ _ _ _ _ hk4.2.2.2) H2.out.2.2.2.1
                clear hk4 a4 s4 c4 hY f4 kl2 kr2
                go_wp2_with fail
                go_meet
                obtain ⟨hk4, a4, s4, c4, hY⟩ := HK4.out
                have c5 := Chg.row w4 g0 (cellsN b0 (clrB bs0 (s - b0)) l0.p (.pointer Y) k0)
                have hP : (prevT l0 r0).bl.Perm (r0.bl ++ l0.bl) := prevT_bl l0 r0
                have hng : g0 ∉ (prevT l0 r0).bl := fun hh => HT.out.2.1.1 ((List.mem_append.1 (hP.subset hh)).elim (fun e => List.mem_append_right _ e) (fun e => List.mem_append_left _ e))
                have hJ := HJ.out (w4.setRow g0 (cellsN b0 (clrB bs0 (s - b0)) l0.p (.pointer Y) k0)) (by rw [HJJ.out]; exact at_keep c5 _ a4 (fun y hy => by simp; rintro rfl; exact hng hy)) ((setRow_other _ _ _ _ HT.out.2.2.2.2.2.2.2.1).trans s4)
                  ((clr_chg (b := b0) (bs := bs0) (l := l0) (r := r0) (h := k0) H2.out.2.2.1).trans ((Chg_drew w2).trans (c4.trans c5 (fun x h => List.mem_append_left [g0] h) (fun x h _ => List.mem_append_right _ h)) (fun x h => absurd h (by simp)) (fun x h _ => h)) (fun x h => h) (fun x h _ => by
                    rcases List.mem_append.1 h with h | h
                    · rcases List.mem_cons.1 h with rfl | h
                      · exact List.mem_cons_self
                      · exact List.mem_cons_of_mem _ (List.mem_cons_of_mem _ ((List.mem_append.1 h).elim (fun e => List.mem_append_right _ e) (fun e => List.mem_append_left _ e)))
                    · rw [List.mem_singleton.1 h]; exact List.mem_cons_of_mem _ List.mem_cons_self))
                rw [← hY, HEE.out]
                rw [HLR.out.1, HLR.out.2] at hJ
                refine ⟨joinT l0 r0, true, by rw [HJJ.out, ← hY], ?_⟩
                rw [HLR.out.1, HLR.out.2]
                exact hJ
    case rest =>
      obtain ⟨U, rm, rfl, HI0, HU, HSS, HCH, HNS0, HRM⟩ := hcut
      have HSS2 : Aside0 (wc.heap[SS]? = some (.cells (ssC R sz nn2 ch2) 84 (0, 0))) := ⟨by rw [HN2.out, ← HRM.out]; exact HSS.out⟩
      clear k1 kl kr ks hb2 ihl ihr HM
      cases rm with
      | false =>
        have kn : wc.cell? ⟨SS, 2, none⟩ = some (.int .i64 nn) := (cell_of_row wc SS 2 _ _ _ HSS.out).trans (by simp [ssC])
        go_wp2_with fail
        go_ret
        have e := HI0.out.trans (if_neg (by simp))
        rw [e]
        exact ⟨rfl, HU.out.1, HSS2.out, HCH.out⟩
      | true =>
        obtain ⟨nm, hnm⟩ : ∃ z : Int, z = nn - 1 := ⟨_, rfl⟩
        have kn : wc.cell? ⟨SS, 2, none⟩ = some (.int .i64 nm) := (cell_of_row wc SS 2 _ _ _ HSS.out).trans (by rw [hnm]; simp [ssC])
        have kb : (nm == nn) = false := beq_eq_false_iff_ne.2 (by omega)
        have kd : decide (nm = nn) = false := decide_eq_false (by omega)
        have HNM := Aside0.mk hnm
        clear hnm
        cases U with
        | nil =>
          rw [show Tr.nil.pp = none from rfl]
          go_wp2_with fail
          refine (balF_calls .nil wc trivial (by decide)).mono ?_
          rintro e w2 ⟨rfl, rfl⟩
          rw [show bF .nil = 0 from rfl]
          go_wp2_with fail
          go_ret
          have e := HI0.out.trans (if_pos (by simp))
          rw [e]
          exact ⟨rfl, trivial, HSS2.out, HCH.out⟩
        | node g b bs' l' r' h0 =>
          have kk : True := trivial
          obtain ⟨HA, HN, HGD, HNS, HI⟩ : Aside0 (Tr.at wc (.node g b bs' l' r' h0)) ∧ Aside0 ((Tr.node g b bs' l' r' h0).bl.Nodup) ∧ Aside0 (l'.good ∧ r'.good ∧ l'.sz + r'.sz ≤ 10001) ∧ Aside0 (SS ≠ g ∧ SS ∉ l'.bl ++ r'.bl ∧ ∀ x ∈ (g :: (l'.bl ++ r'.bl)), x < w.heap.size → x ∈ SS :: (Tr.node g0 b0 bs0 l0 r0 k0).bl) ∧ Aside0 (delT s (Tr.node g0 b0 bs0 l0 r0 k0) = balT g b bs' l' r') := by
            refine ⟨⟨HU.out.1⟩, ⟨HU.out.2.1⟩, ⟨HU.out.2.2.1.1, HU.out.2.2.1.2, ?_⟩, ⟨fun e => HNS0.out.1 (by rw [e]; exact List.mem_cons_self), fun e => HNS0.out.1 (List.mem_cons_of_mem _ e), fun x hx _ => List.mem_cons_of_mem _ (HNS0.out.2 x hx)⟩, ⟨?_⟩⟩
            · have h := HU.out.2.2.2
              have h2 : (Tr.node g b bs' l' r' h0).sz = l'.sz + r'.sz + 1 := rfl
              omega
            · have e := HI0.out.trans (if_pos (by simp))
              exact e
          clear HU kk HSS HI0 HNS0
          have HSS := HSS2
          rw [show (Tr.node g b bs' l' r' h0).pp = some ⟨g, 0, none⟩ from rfl]
          go_wp2_with fail
          refine (maxH_calls (.node g b bs' l' r' h0) wc HA.out).mono ?_
          rintro e w1 ⟨rfl, rfl⟩
          obtain ⟨x, hx⟩ : ∃ x, x = mH (.node g b bs' l' r' h0) := ⟨_, rfl⟩
          rw [← hx]
          have HX := Aside0.mk hx
          clear hx
          have n1 := nd_free HA.out.2.1 35
          have n2 := nd_h HA.out.2.1 HA.out.1
          go_wp2_with fail
          have ex : wrap64 (x + 1) = mH (.node g b bs' l' r' 0) + 1 := by
            have h1 := mH_sz g b bs' l' r' h0 HGD.out.1 HGD.out.2.1
            have h2 := HGD.out.2.2
            rw [HX.out, show mH (.node g b bs' l' r' 0) = mH (.node g b bs' l' r' h0) from rfl]
            exact Road.w64 _ _ rfl (by omega) (by omega)
          rw [ex, nd_setH HA.out.2.1 HA.out.1]
          obtain ⟨h1, hh1⟩ : ∃ h1, h1 = mH (.node g b bs' l' r' 0) + 1 := ⟨_, rfl⟩
          rw [← hh1]
          have HH1 := Aside0.mk hh1
          clear ex n1 n2 hh1
          have C1 := HCH.out.trans (Chg.row w1 g (cellsN b bs' l'.p r'.p h1)) (fun x h => h) (fun x hx => HNS.out.2.2 x (by rw [List.mem_singleton.1 hx]; exact List.mem_cons_self))
          have C1a := Chg.row w1 g (cellsN b bs' l'.p r'.p h1)
          have q1 := setRow_heap w1 g _ (cellsN b bs' l'.p r'.p h1) _ _ HA.out.2.1
          have nd := List.nodup_cons.1 HN.out
          have A1 : Tr.at (w1.setRow g (cellsN b bs' l'.p r'.p h1)) (.node g b bs' l' r' h1) := ⟨HA.out.1, q1, at_keep C1a l' HA.out.2.2.1 (fun y hy => by simp; rintro rfl; exact nd.1 (List.mem_append_left _ hy)), at_keep C1a r' HA.out.2.2.2 (fun y hy => by simp; rintro rfl; exact nd.1 (List.mem_append_right _ hy))⟩
          have S1 : (w1.setRow g (cellsN b bs' l'.p r'.p h1)).heap[SS]? = _ := (setRow_other _ _ _ _ HNS.out.1).trans HSS.out
          generalize w1.setRow g (cellsN b bs' l'.p r'.p h1) = W1 at C1 A1 S1 ⊢
          have HC1 := Aside0.mk C1
          have HA1 := Aside0.mk A1
          have HS1 := Aside0.mk S1
          clear C1 C1a q1 nd A1 S1
          have G1 : (Tr.node g b bs' l' r' h1).good := ⟨by rw [HH1.out]; rfl, HGD.out.1, HGD.out.2.1⟩
          have Z1 : (Tr.node g b bs' l' r' h1).sz ≤ 20000 := by have := HGD.out.2.2; show l'.sz + r'.sz + 1 ≤ 20000; omega
          refine (balF_calls (.node g b bs' l' r' h1) W1 HA1.out (bF_sz _ G1 Z1)).mono ?_
          rintro e w2 ⟨rfl, rfl⟩
          obtain ⟨d, hd⟩ : ∃ d, d = bF (.node g b bs' l' r' h1) := ⟨_, rfl⟩
          rw [← hd]
          have HD := Aside0.mk hd
          have HG1 := Aside0.mk (And.intro G1 Z1)
          clear hd G1 Z1
          have nl : w2.cell? ⟨g, 33, none⟩ = some (.pointer l'.pp) := nd_l HA1.out.2.1 HA1.out.1
          have nr : w2.cell? ⟨g, 34, none⟩ = some (.pointer r'.pp) := nd_r HA1.out.2.1 HA1.out.1
          have fl := nd_free HA1.out.2.1 33
          have fr := nd_free HA1.out.2.1 34
          by_cases c1 : 1 < d
          · have c1' : decide (1 < d) = true := decide_eq_true c1
            obtain ⟨g1, b1, bs1, lx, rx, k1, hs⟩ := left_of (show (Tr.node g b bs' l' r' h1).good from HG1.out.1) (by rw [← HD.out]; omega)
            have HSH := Aside0.mk hs
            clear hs
            have esp : l'.pp = some ⟨g1, 0, none⟩ := by rw [HSH.out]; rfl
            rw [esp] at nl
            have HESP := Aside0.mk esp
            clear esp
            go_wp2_with fail
            have hbs := balF_calls l' w2 HA1.out.2.2.1 (bF_sz l' HGD.out.1 (by have := HGD.out.2.2; omega))
            rw [show l'.p = .pointer (some ⟨g1, 0, none⟩) by rw [Tr.p, HESP.out]] at hbs
            refine hbs.mono ?_
            clear hbs
            rintro e w3 ⟨rfl, rfl⟩
            obtain ⟨d2, hd2⟩ : ∃ d2, d2 = bF l' := ⟨_, rfl⟩
            rw [← hd2]
            have HD2 := Aside0.mk hd2
            clear hd2
            by_cases c2 : d2 < 0
            · have c2' : decide (d2 < 0) = true := decide_eq_true c2
              obtain ⟨g3, b3, bs3, ly, ry, k3, ht⟩ := right_of (by rw [← HSH.out]; exact HGD.out.1 : (Tr.node g1 b1 bs1 lx rx k1).good) (by rw [← HSH.out, ← HD2.out]; omega)
              have hshape : ∃ g b bs o g2 b2 bs2 i p k2 h, l' = .node g b bs o (.node g2 b2 bs2 i p k2) h := ⟨_, _, _, _, _, _, _, _, _, _, _, by rw [HSH.out, ht]⟩
              have HSHP := Aside0.mk hshape
              clear ht hshape c2
              go_wp2_with fail
              have nd := List.nodup_cons.1 HN.out
              have hrc := rotLt_calls l' w3 HA1.out.2.2.1 (List.nodup_append.1 nd.2).1 (by rw [HSH.out]; have := HGD.out.1; rw [HSH.out] at this; exact ⟨this.2.1, this.2.2⟩) (by have := HGD.out.2.2; omega) HSHP.out
              rw [show l'.p = .pointer (some ⟨g1, 0, none⟩) by rw [Tr.p, HESP.out]] at hrc
              refine hrc.mono ?_
              clear hrc
              rintro e w4 ⟨rfl, a4, c4⟩
              have p4 := rotLt_bl l'
              have hgn : g ∉ l'.bl := fun hh => nd.1 (List.mem_append_left _ hh)
              have q4 : w4.heap[g]? = _ := (c4.keep g (Array.getElem?_eq_some_iff.1 HA1.out.2.1).1 hgn).trans HA1.out.2.1
              have a5 : r'.at w4 := at_keep c4 r' HA1.out.2.2.2 (fun y hy hy2 => (List.nodup_append.1 nd.2).2.2 y hy2 y hy rfl)
              have s4 : w4.heap[SS]? = _ := (c4.keep SS (Array.getElem?_eq_some_iff.1 HS1.out).1 (fun hh => HNS.out.2.1 (List.mem_append_left _ hh))).trans HS1.out
              have C4 := HC1.out.trans c4 (fun x h => h) (fun x hx => HNS.out.2.2 x (List.mem_cons_of_mem _ (List.mem_append_left _ hx)))
              have f4 := nd_free q4 33
              have n4 := nd_l q4 HA.out.1
              have H4 := Aside0.mk (And.intro a4 (And.intro a5 (And.intro q4 (And.intro s4 (And.intro C4 (And.intro p4 hgn))))))
              obtain ⟨g5, b5, bs5, l5, r5, k5, ht5⟩ := rotLt_shape HSHP.out
              have e5 : (rotLt l').pp = some ⟨g5, 0, none⟩ := by rw [ht5]; rfl
              rw [Tr.p, e5]
              have HE5 := Aside0.mk e5
              clear nd a4 a5 q4 s4 c4 C4 p4 hgn ht5 e5 nl nr fl fr
              go_wp2_with fail
              rw [show (Value.pointer (some ⟨g5, 0, none⟩)) = (rotLt l').p by rw [Tr.p, HE5.out], nd_setL H4.out.2.2.1 HA.out.1]
              obtain ⟨a4, a5, q4, s4, C4, p4, hgn⟩ := H4.out
              have c6 := Chg.row w4 g (cellsN b bs' (rotLt l').p r'.p h1)
              have q6 := setRow_heap w4 g _ (cellsN b bs' (rotLt l').p r'.p h1) _ _ q4
              have nd := List.nodup_cons.1 HN.out
              have a6 : (rotLt l').at (w4.setRow g (cellsN b bs' (rotLt l').p r'.p h1)) := at_keep c6 _ a4 (fun y hy => by simp; rintro rfl; exact hgn (p4.subset hy))
              have a7 : r'.at (w4.setRow g (cellsN b bs' (rotLt l').p r'.p h1)) := at_keep c6 _ a5 (fun y hy => by simp; rintro rfl; exact nd.1 (List.mem_append_right _ hy))
              have s6 : (w4.setRow g (cellsN b bs' (rotLt l').p r'.p h1)).heap[SS]? = _ := (setRow_other _ _ _ _ HNS.out.1).trans s4
              have C6 := C4.trans c6 (fun x h => h) (fun x hx => HNS.out.2.2 x (by rw [List.mem_singleton.1 hx]; exact List.mem_cons_self))
              have A6 : Tr.at (w4.setRow g (cellsN b bs' (rotLt l').p r'.p h1)) (.node g b bs' (rotLt l') r' h1) := ⟨HA.out.1, q6, a6, a7⟩
              have N6 : (Tr.bl (.node g b bs' (rotLt l') r' h1)).Nodup := (bl_node rfl p4 (List.Perm.refl _)).nodup_iff.2 HN.out
              have P6 : (Tr.bl (.node g b bs' (rotLt l') r' h1)).Perm (g :: (l'.bl ++ r'.bl)) := bl_node (b := b) (b' := b) (bs := bs') (bs' := bs') (h := h1) (h' := h1) rfl p4 (List.Perm.refl _)
              generalize w4.setRow g (cellsN b bs' (rotLt l').p r'.p h1) = W6 at A6 s6 C6 ⊢
              refine (rotRt_calls (.node g b bs' (rotLt l') r' h1) W6 A6 N6 ⟨rotLt_good _ HGD.out.1, HGD.out.2.1⟩ (by have := HGD.out.2.2; show (rotLt l').sz + r'.sz + 1 ≤ 20000; rw [rotLt_sz]; omega) (by obtain ⟨g9, b9, bs9, l9, r9, k9, hz9⟩ := rotLt_shape HSHP.out; rw [hz9]; exact ⟨_, _, _, _, _, _, _, _, _, _, _, rfl⟩)).mono ?_
              rintro e w7 ⟨rfl, a9, c9⟩
              have EQ : balT g b bs' l' r' = rotRt (.node g b bs' (rotLt l') r' h1) := by
                unfold balT
                simp only
                rw [if_pos (show 1 < l'.ht - r'.ht by have h := HD.out; rw [show bF (.node g b bs' l' r' h1) = l'.ht - r'.ht from rfl] at h; omega), if_pos (show bF l' < 0 by rw [← HD2.out]; exact of_decide_eq_true c2'), ← HH1.out]
              have C9 := C6.trans c9 (fun x h => h) (fun x hx => HNS.out.2.2 x (P6.subset hx))
              have s9 : w7.heap[SS]? = _ := (c9.keep SS (Array.getElem?_eq_some_iff.1 s6).1 (fun hh => (List.mem_cons.1 (P6.subset hh)).elim (fun e => HNS.out.1 e) HNS.out.2.1)).trans s6
              have H9 := Aside0.mk (And.intro EQ (And.intro a9 (And.intro s9 C9)))
              clear H4 a4 a5 q4 s4 C4 p4 hgn c6 q6 nd a6 a7 s6 C6 A6 N6 P6 c9 a9 s9 C9 EQ f4 n4
              go_wp2_with fail
              go_ret
              obtain ⟨EQ, a9, s9, C9⟩ := H9.out
              rw [HI.out, EQ]
              exact ⟨rfl, a9, s9, C9⟩
            · have c2' : decide (d2 < 0) = false := decide_eq_false c2
              go_wp2_with fail
              refine (rotRt_calls (.node g b bs' l' r' h1) w3 HA1.out HN.out ⟨HGD.out.1, HGD.out.2.1⟩ HG1.out.2 (by rw [HSH.out]; exact ⟨_, _, _, _, _, _, _, _, _, _, _, rfl⟩)).mono ?_
              rintro e w7 ⟨rfl, a9, c9⟩
              have EQ : balT g b bs' l' r' = rotRt (.node g b bs' l' r' h1) := by
                unfold balT
                simp only
                rw [if_pos (show 1 < l'.ht - r'.ht by have h := HD.out; rw [show bF (.node g b bs' l' r' h1) = l'.ht - r'.ht from rfl] at h; omega), if_neg (show ¬ bF l' < 0 by rw [← HD2.out]; exact of_decide_eq_false c2'), ← HH1.out]
              have C9 := HC1.out.trans c9 (fun x h => h) (fun x hx => HNS.out.2.2 x hx)
              have s9 : w7.heap[SS]? = _ := (c9.keep SS (Array.getElem?_eq_some_iff.1 HS1.out).1 (fun hh => (List.mem_cons.1 hh).elim (fun e => HNS.out.1 e) HNS.out.2.1)).trans HS1.out
              have H9 := Aside0.mk (And.intro EQ (And.intro a9 (And.intro s9 C9)))
              clear c9 a9 s9 C9 EQ nl nr fl fr c2
              go_wp2_with fail
              go_ret
              obtain ⟨EQ, a9, s9, C9⟩ := H9.out
              rw [HI.out, EQ]
              exact ⟨rfl, a9, s9, C9⟩
          · have c1' : decide (1 < d) = false := decide_eq_false c1
            by_cases c3 : d < -1
            · have c3' : decide (d < -1) = true := decide_eq_true c3
              obtain ⟨g1, b1, bs1, lx, rx, k1, hs⟩ := right_of (show (Tr.node g b bs' l' r' h1).good from HG1.out.1) (by rw [← HD.out]; omega)
              have HSH := Aside0.mk hs
              clear hs
              have esp : r'.pp = some ⟨g1, 0, none⟩ := by rw [HSH.out]; rfl
              rw [esp] at nr
              have HESP := Aside0.mk esp
              clear esp
              go_wp2_with fail
              have hbs := balF_calls r' w2 HA1.out.2.2.2 (bF_sz r' HGD.out.2.1 (by have := HGD.out.2.2; omega))
              rw [show r'.p = .pointer (some ⟨g1, 0, none⟩) by rw [Tr.p, HESP.out]] at hbs
              refine hbs.mono ?_
              clear hbs
              rintro e w3 ⟨rfl, rfl⟩
              obtain ⟨d2, hd2⟩ : ∃ d2, d2 = bF r' := ⟨_, rfl⟩
              rw [← hd2]
              have HD2 := Aside0.mk hd2
              clear hd2
              by_cases c2 : 0 < d2
              · have c2' : decide (0 < d2) = true := decide_eq_true c2
                obtain ⟨g3, b3, bs3, ly, ry, k3, ht⟩ := left_of (by rw [← HSH.out]; exact HGD.out.2.1 : (Tr.node g1 b1 bs1 lx rx k1).good) (by rw [← HSH.out, ← HD2.out]; omega)
                have hshape : ∃ g b bs o g2 b2 bs2 i p k2 h, r' = .node g b bs (.node g2 b2 bs2 p i k2) o h := ⟨_, _, _, _, _, _, _, _, _, _, _, by rw [HSH.out, ht]⟩
                have HSHP := Aside0.mk hshape
                clear ht hshape c2
                go_wp2_with fail
                have nd := List.nodup_cons.1 HN.out
                have hrc := rotRt_calls r' w3 HA1.out.2.2.2 (List.nodup_append.1 nd.2).2.1 (by rw [HSH.out]; have := HGD.out.2.1; rw [HSH.out] at this; exact ⟨this.2.1, this.2.2⟩) (by have := HGD.out.2.2; omega) HSHP.out
                rw [show r'.p = .pointer (some ⟨g1, 0, none⟩) by rw [Tr.p, HESP.out]] at hrc
                refine hrc.mono ?_
                clear hrc
                rintro e w4 ⟨rfl, a4, c4⟩
                have p4 := rotRt_bl r'
                have hgn : g ∉ r'.bl := fun hh => nd.1 (List.mem_append_right _ hh)
                have q4 : w4.heap[g]? = _ := (c4.keep g (Array.getElem?_eq_some_iff.1 HA1.out.2.1).1 hgn).trans HA1.out.2.1
                have a5 : l'.at w4 := at_keep c4 l' HA1.out.2.2.1 (fun y hy hy2 => (List.nodup_append.1 nd.2).2.2 y hy y hy2 rfl)
                have s4 : w4.heap[SS]? = _ := (c4.keep SS (Array.getElem?_eq_some_iff.1 HS1.out).1 (fun hh => HNS.out.2.1 (List.mem_append_right _ hh))).trans HS1.out
                have C4 := HC1.out.trans c4 (fun x h => h) (fun x hx => HNS.out.2.2 x (List.mem_cons_of_mem _ (List.mem_append_right _ hx)))
                have f4 := nd_free q4 34
                have n4 := nd_r q4 HA.out.1
                have H4 := Aside0.mk (And.intro a4 (And.intro a5 (And.intro q4 (And.intro s4 (And.intro C4 (And.intro p4 hgn))))))
                obtain ⟨g5, b5, bs5, l5, r5, k5, ht5⟩ := rotRt_shape HSHP.out
                have e5 : (rotRt r').pp = some ⟨g5, 0, none⟩ := by rw [ht5]; rfl
                rw [Tr.p, e5]
                have HE5 := Aside0.mk e5
                clear nd a4 a5 q4 s4 c4 C4 p4 hgn ht5 e5 nl nr fl fr
                go_wp2_with fail
                rw [show (Value.pointer (some ⟨g5, 0, none⟩)) = (rotRt r').p by rw [Tr.p, HE5.out], nd_setR H4.out.2.2.1 HA.out.1]
                obtain ⟨a4, a5, q4, s4, C4, p4, hgn⟩ := H4.out
                have c6 := Chg.row w4 g (cellsN b bs' l'.p (rotRt r').p h1)
                have q6 := setRow_heap w4 g _ (cellsN b bs' l'.p (rotRt r').p h1) _ _ q4
                have nd := List.nodup_cons.1 HN.out
                have a6 : (rotRt r').at (w4.setRow g (cellsN b bs' l'.p (rotRt r').p h1)) := at_keep c6 _ a4 (fun y hy => by simp; rintro rfl; exact hgn (p4.subset hy))
                have a7 : l'.at (w4.setRow g (cellsN b bs' l'.p (rotRt r').p h1)) := at_keep c6 _ a5 (fun y hy => by simp; rintro rfl; exact nd.1 (List.mem_append_left _ hy))
                have s6 : (w4.setRow g (cellsN b bs' l'.p (rotRt r').p h1)).heap[SS]? = _ := (setRow_other _ _ _ _ HNS.out.1).trans s4
                have C6 := C4.trans c6 (fun x h => h) (fun x hx => HNS.out.2.2 x (by rw [List.mem_singleton.1 hx]; exact List.mem_cons_self))
                have A6 : Tr.at (w4.setRow g (cellsN b bs' l'.p (rotRt r').p h1)) (.node g b bs' l' (rotRt r') h1) := ⟨HA.out.1, q6, a7, a6⟩
                have N6 : (Tr.bl (.node g b bs' l' (rotRt r') h1)).Nodup := (bl_node rfl (List.Perm.refl _) p4).nodup_iff.2 HN.out
                have P6 : (Tr.bl (.node g b bs' l' (rotRt r') h1)).Perm (g :: (l'.bl ++ r'.bl)) := bl_node (b := b) (b' := b) (bs := bs') (bs' := bs') (h := h1) (h' := h1) rfl (List.Perm.refl _) p4
                generalize w4.setRow g (cellsN b bs' l'.p (rotRt r').p h1) = W6 at A6 s6 C6 ⊢
                refine (rotLt_calls (.node g b bs' l' (rotRt r') h1) W6 A6 N6 ⟨HGD.out.1, rotRt_good _ HGD.out.2.1⟩ (by have := HGD.out.2.2; show l'.sz + (rotRt r').sz + 1 ≤ 20000; rw [rotRt_sz]; omega) (by obtain ⟨g9, b9, bs9, l9, r9, k9, hz9⟩ := rotRt_shape HSHP.out; rw [hz9]; exact ⟨_, _, _, _, _, _, _, _, _, _, _, rfl⟩)).mono ?_
                rintro e w7 ⟨rfl, a9, c9⟩
                have EQ : balT g b bs' l' r' = rotLt (.node g b bs' l' (rotRt r') h1) := by
                  unfold balT
                  simp only
                  rw [if_neg (show ¬ 1 < l'.ht - r'.ht by have h := HD.out; rw [show bF (.node g b bs' l' r' h1) = l'.ht - r'.ht from rfl] at h; omega), if_pos (show l'.ht - r'.ht < -1 by have h := HD.out; rw [show bF (.node g b bs' l' r' h1) = l'.ht - r'.ht from rfl] at h; omega), if_pos (show 0 < bF r' by rw [← HD2.out]; exact of_decide_eq_true c2'), ← HH1.out]
                have C9 := C6.trans c9 (fun x h => h) (fun x hx => HNS.out.2.2 x (P6.subset hx))
                have s9 : w7.heap[SS]? = _ := (c9.keep SS (Array.getElem?_eq_some_iff.1 s6).1 (fun hh => (List.mem_cons.1 (P6.subset hh)).elim (fun e => HNS.out.1 e) HNS.out.2.1)).trans s6
                have H9 := Aside0.mk (And.intro EQ (And.intro a9 (And.intro s9 C9)))
                clear H4 a4 a5 q4 s4 C4 p4 hgn c6 q6 nd a6 a7 s6 C6 A6 N6 P6 c9 a9 s9 C9 EQ f4 n4
                go_wp2_with fail
                go_ret
                obtain ⟨EQ, a9, s9, C9⟩ := H9.out
                rw [HI.out, EQ]
                exact ⟨rfl, a9, s9, C9⟩
              · have c2' : decide (0 < d2) = false := decide_eq_false c2
                go_wp2_with fail
                refine (rotLt_calls (.node g b bs' l' r' h1) w3 HA1.out HN.out ⟨HGD.out.1, HGD.out.2.1⟩ HG1.out.2 (by rw [HSH.out]; exact ⟨_, _, _, _, _, _, _, _, _, _, _, rfl⟩)).mono ?_
                rintro e w7 ⟨rfl, a9, c9⟩
                have EQ : balT g b bs' l' r' = rotLt (.node g b bs' l' r' h1) := by
                  unfold balT
                  simp only
                  rw [if_neg (show ¬ 1 < l'.ht - r'.ht by have h := HD.out; rw [show bF (.node g b bs' l' r' h1) = l'.ht - r'.ht from rfl] at h; omega), if_pos (show l'.ht - r'.ht < -1 by have h := HD.out; rw [show bF (.node g b bs' l' r' h1) = l'.ht - r'.ht from rfl] at h; omega), if_neg (show ¬ 0 < bF r' by rw [← HD2.out]; exact of_decide_eq_false c2'), ← HH1.out]
                have C9 := HC1.out.trans c9 (fun x h => h) (fun x hx => HNS.out.2.2 x hx)
                have s9 : w7.heap[SS]? = _ := (c9.keep SS (Array.getElem?_eq_some_iff.1 HS1.out).1 (fun hh => (List.mem_cons.1 hh).elim (fun e => HNS.out.1 e) HNS.out.2.1)).trans HS1.out
                have H9 := Aside0.mk (And.intro EQ (And.intro a9 (And.intro s9 C9)))
                clear c9 a9 s9 C9 EQ nl nr fl fr c2
                go_wp2_with fail
                go_ret
                obtain ⟨EQ, a9, s9, C9⟩ := H9.out
                rw [HI.out, EQ]
                exact ⟨rfl, a9, s9, C9⟩
            · have c3' : decide (d < -1) = false := decide_eq_false c3
              have EQ : balT g b bs' l' r' = .node g b bs' l' r' h1 := by
                unfold balT
                simp only
                have h := HD.out
                rw [show bF (.node g b bs' l' r' h1) = l'.ht - r'.ht from rfl] at h
                rw [if_neg (show ¬ 1 < l'.ht - r'.ht by omega), if_neg (show ¬ l'.ht - r'.ht < -1 by omega), ← HH1.out]
              have H9 := Aside0.mk (And.intro EQ (And.intro HA1.out (And.intro HS1.out HC1.out)))
              clear EQ nl nr fl fr c1 c3
              go_wp2_with fail
              go_ret
              obtain ⟨EQ, a9, s9, C9⟩ := H9.out
              rw [HI.out, EQ]
              exact ⟨rfl, a9, s9, C9⟩
theorem Empty_calls (SS : Nat) (R : Value) (sz nn : Int) (ch : Bool) (w : World) (hS : w.heap[SS]? = some (.cells (ssC R sz nn ch) 84 (0, 0))) :
    Calls Tryd.prog 73 #[.pointer (some ⟨SS, 0, none⟩)] w fun e w' => e = .returned (.tuple #[]) ∧ w'.heap[SS]? = some (.cells (ssC (.pointer none) 0 0 ch) 84 (0, 0)) ∧ Chg [SS] w w' := by
  have HS := Aside0.mk hS
  have k0 : w.frozen? ⟨SS, 0, none⟩ = false := by simp [World.frozen?, hS]
  have j0 : w.cell? ⟨SS, 0, none⟩ = some R := (cell_of_row w SS 0 _ _ _ hS).trans rfl
  have e0 : w.setCell ⟨SS, 0, none⟩ (.pointer none) = w.setRow SS (ssC (.pointer none) sz nn ch) := setCell_eq_setRow w SS 0 _ _ _ _ hS
  obtain ⟨w1, hw1⟩ : ∃ x, x = w.setRow SS (ssC (.pointer none) sz nn ch) := ⟨_, rfl⟩
  rw [← hw1] at e0
  have h1 : w1.heap[SS]? = some (.cells (ssC (.pointer none) sz nn ch) 84 (0, 0)) := by rw [hw1]; exact setRow_heap _ _ _ _ _ _ hS
  have c1 : Chg [SS] w w1 := by rw [hw1]; exact Chg.row w SS _
  have k1 : w1.frozen? ⟨SS, 1, none⟩ = false := by simp [World.frozen?, h1]
  have j1 : w1.cell? ⟨SS, 1, none⟩ = some (.int .i64 sz) := (cell_of_row w1 SS 1 _ _ _ h1).trans rfl
  have e1 : w1.setCell ⟨SS, 1, none⟩ (.int .i64 0) = w1.setRow SS (ssC (.pointer none) 0 nn ch) := setCell_eq_setRow w1 SS 1 _ _ _ _ h1
  obtain ⟨w2, hw2⟩ : ∃ x, x = w1.setRow SS (ssC (.pointer none) 0 nn ch) := ⟨_, rfl⟩
  rw [← hw2] at e1
  have h2 : w2.heap[SS]? = some (.cells (ssC (.pointer none) 0 nn ch) 84 (0, 0)) := by rw [hw2]; exact setRow_heap _ _ _ _ _ _ h1
  have c2 : Chg [SS] w w2 := by rw [hw2]; exact c1.trans (Chg.row _ SS _) (fun x h => h) (fun x h _ => h)
  have k2 : w2.frozen? ⟨SS, 2, none⟩ = false := by simp [World.frozen?, h2]
  have j2 : w2.cell? ⟨SS, 2, none⟩ = some (.int .i64 nn) := (cell_of_row w2 SS 2 _ _ _ h2).trans rfl
  have e2 : w2.setCell ⟨SS, 2, none⟩ (.int .i64 0) = w2.setRow SS (ssC (.pointer none) 0 0 ch) := setCell_eq_setRow w2 SS 2 _ _ _ _ h2
  have H2 := Aside0.mk (And.intro h2 c2)
  clear hw1 hw2 h1 h2 c1 c2 hS
  go_enter Tryd.func73, Tryd.ntmps73
  go_wp2_with fail
  go_end0
  exact ⟨rfl, setRow_heap _ _ _ _ _ _ H2.out.1, H2.out.2.trans (Chg.row _ SS _) (fun x h => h) (fun x h _ => h)⟩
/-- A number taken out; sz: how many there are. -/
def subT (s : Nat) (sz : Int) (t : Tr) : Tr := if inT s t = true ∧ sz = 1 then .nil else delT s t
set_option maxHeartbeats 16000000 in
set_option maxRecDepth 100000 in
theorem Delete_calls (t : Tr) (SS : Nat) (sz : Int) (s : Nat) (w : World) (ha : t.at w) (hnd : t.bl.Nodup) (hg : t.good) (hsz : t.sz ≤ 10000) (hf : t.fit) (hS : w.heap[SS]? = some (.cells (ssC t.p sz t.sz false) 84 (0, 0))) (hSS : SS ∉ t.bl) (hs : s < 18446744073709551616) (hz : 0 ≤ sz ∧ sz ≤ 1000000) :
    Calls Tryd.prog 52 #[.pointer (some ⟨SS, 0, none⟩), .int .u64 (s : Int)] w fun e w' => e = .returned (.bool (inT s t)) ∧ (subT s sz t).at w' ∧
      w'.heap[SS]? = some (.cells (ssC (subT s sz t).p (sz - if inT s t = true then 1 else 0) (subT s sz t).sz false) 84 (0, 0)) ∧ Chg (SS :: t.bl) w w' := by
  cases ht : t with
  | nil =>
    subst ht
    have c0 : w.cell? ⟨SS, 0, none⟩ = some (.pointer none) := (cell_of_row w SS 0 _ _ _ hS).trans rfl
    have HS := Aside0.mk hS
    clear hS ha hnd hg hsz hf hSS hs hz
    rw [show inT s .nil = false from rfl, show subT s sz .nil = .nil by unfold subT; split <;> rfl]
    go_enter Tryd.func52, Tryd.ntmps52
    go_wp2_with fail
    go_ret
    exact ⟨rfl, trivial, by simpa using HS.out, Chg.refl _ _⟩
  | node g b bs l r h =>
    rw [← ht]
    have htp : t.p = .pointer (some ⟨g, 0, none⟩) := by rw [ht]; rfl
    have c0 : w.cell? ⟨SS, 0, none⟩ = some (.pointer (some ⟨g, 0, none⟩)) := (cell_of_row w SS 0 _ _ _ hS).trans (by rw [htp]; rfl)
    obtain ⟨q, hq⟩ : ∃ z, z = inT s t := ⟨_, rfl⟩
    obtain ⟨t2, ht2⟩ : ∃ z, z = subT s sz t := ⟨_, rfl⟩
    obtain ⟨sz2, hsz2⟩ : ∃ z : Int, z = sz - if inT s t = true then 1 else 0 := ⟨_, rfl⟩
    rw [← hsz2, ← ht2, ← hq]
    have hdc := delete_calls s SS t.p sz t.sz false hs ⟨by omega, by omega⟩ t w.drew (at_keep (Chg_drew w) t ha (by simp)) hnd hg hsz hf hS hSS
    rw [htp] at hdc
    have HDC := Aside0.mk hdc
    have HQ := Aside0.mk (And.intro hq (And.intro ht2 hsz2))
    have HS := Aside0.mk (And.intro hSS hz)
    have HTT := Aside0.mk htp
    clear ha hnd hg hsz hf hS hSS hs hz hq ht2 hsz2 htp hdc ht
    go_enter Tryd.func52, Tryd.ntmps52
    go_wp2_with fail
    refine start_ (n := 16) (S := fun w' => w'.cell? ⟨SS, 0, none⟩ = some (.pointer (some ⟨g, 0, none⟩))) (ds := [15]) #[false, false, false, false, false, false, false, false, false, false, false, false, false, false, false, false] (by kernel_rfl) rfl rfl c0 (fun hHeld => ?_)
    refine pure_ (i := 0) (N := some 14) (v := ?_) (a' := ?_) #[true, false, false, false, false, false, false, false, false, false, false, false, false, false, false, false] rfl rfl (by kernel_rfl) (fun _ _ _ h => h) (Or.inl ⟨by rfl, ?_⟩) ?_ ?_
    rotate_left
    · intro w'
      go_simp
      with_reducible rfl
    rotate_left
    · simp only [Act.put, List.setIfInBounds_toArray, List.set_cons_zero, List.set_cons_succ, i64_w, i32_w]
      rfl
    refine pure_ (i := 1) (N := some 15) (v := ?_) (a' := ?_) #[true, true, false, false, false, false, false, false, false, false, false, false, false, false, false, false] rfl rfl (by kernel_rfl) (fun _ _ _ h => h) (Or.inl ⟨by rfl, ?_⟩) ?_ ?_
    rotate_left
    · intro w'
      go_simp
      with_reducible rfl
    rotate_left
    · simp only [Act.put, List.setIfInBounds_toArray, List.set_cons_zero, List.set_cons_succ, i64_w, i32_w]
      rfl
    refine pure_ (i := 2) (N := some 16) (v := ?_) (a' := ?_) #[true, true, true, false, false, false, false, false, false, false, false, false, false, false, false, false] rfl rfl (by kernel_rfl) (fun _ _ _ h => h) (Or.inl ⟨by rfl, ?_⟩) ?_ ?_
    rotate_left
    · intro w'
      go_simp
      with_reducible rfl
    rotate_left
    · simp only [Act.put, List.setIfInBounds_toArray, List.set_cons_zero, List.set_cons_succ, i64_w, i32_w]
      rfl
    refine pure_ (i := 3) (N := some 17) (v := ?_) (a' := ?_) #[true, true, true, true, false, false, false, false, false, false, false, false, false, false, false, false] rfl rfl (by kernel_rfl) (fun _ _ _ h => h) (Or.inl ⟨by rfl, ?_⟩) ?_ ?_
    rotate_left
    · intro w'
      go_simp
      with_reducible rfl
    rotate_left
    · simp only [Act.put, List.setIfInBounds_toArray, List.set_cons_zero, List.set_cons_succ, i64_w, i32_w]
      rfl
    refine take_ (i := 4) (N := some 18) (v := ?_) (a' := ?_) #[true, true, true, true, true, false, false, false, false, false, false, false, false, false, false, false] rfl rfl (by kernel_rfl) (fun _ _ _ h => h) (Or.inl ⟨by rfl, ?_⟩) hHeld ?_ ?_
    rotate_left
    · intro w' hS'
      go_simp
      with_reducible rfl
    rotate_left
    · simp only [Act.put, List.setIfInBounds_toArray, List.set_cons_zero, List.set_cons_succ, i64_w, i32_w]
      rfl
    refine pure_ (i := 5) (N := some 19) (v := ?_) (a' := ?_) #[true, true, true, true, true, true, false, false, false, false, false, false, false, false, false, false] rfl rfl (by kernel_rfl) (fun _ _ _ h => h) (Or.inl ⟨by rfl, ?_⟩) ?_ ?_
    rotate_left
    · intro w'
      go_simp
      with_reducible rfl
    rotate_left
    · simp only [Act.put, List.setIfInBounds_toArray, List.set_cons_zero, List.set_cons_succ, i64_w, i32_w]
      rfl
    refine pure_ (i := 6) (N := some 20) (v := ?_) (a' := ?_) #[true, true, true, true, true, true, true, false, false, false, false, false, false, false, false, false] rfl rfl (by kernel_rfl) (fun _ _ _ h => h) (Or.inl ⟨by rfl, ?_⟩) ?_ ?_
    rotate_left
    · intro w'
      go_simp
      with_reducible rfl
    rotate_left
    · simp only [Act.put, List.setIfInBounds_toArray, List.set_cons_zero, List.set_cons_succ, i64_w, i32_w]
      rfl
    refine pure_ (i := 7) (N := some 21) (v := ?_) (a' := ?_) #[true, true, true, true, true, true, true, true, false, false, false, false, false, false, false, false] rfl rfl (by kernel_rfl) (fun _ _ _ h => h) (Or.inl ⟨by rfl, ?_⟩) ?_ ?_
    rotate_left
    · intro w'
      go_simp
      with_reducible rfl
    rotate_left
    · simp only [Act.put, List.setIfInBounds_toArray, List.set_cons_zero, List.set_cons_succ, i64_w, i32_w]
      rfl
    refine pure_ (i := 8) (N := some 22) (v := ?_) (a' := ?_) #[true, true, true, true, true, true, true, true, true, false, false, false, false, false, false, false] rfl rfl (by kernel_rfl) (fun _ _ _ h => h) (Or.inl ⟨by rfl, ?_⟩) ?_ ?_
    rotate_left
    · intro w'
      go_simp
      with_reducible rfl
    rotate_left
    · simp only [Act.put, List.setIfInBounds_toArray, List.set_cons_zero, List.set_cons_succ, i64_w, i32_w]
      rfl
    refine pure_ (i := 9) (N := some 23) (v := ?_) (a' := ?_) #[true, true, true, true, true, true, true, true, true, true, false, false, false, false, false, false] rfl rfl (by kernel_rfl) (fun _ _ _ h => h) (Or.inl ⟨by rfl, ?_⟩) ?_ ?_
    rotate_left
    · intro w'
      go_simp
      with_reducible rfl
    rotate_left
    · simp only [Act.put, List.setIfInBounds_toArray, List.set_cons_zero, List.set_cons_succ, i64_w, i32_w]
      rfl
    refine pure_ (i := 10) (N := some 24) (v := ?_) (a' := ?_) #[true, true, true, true, true, true, true, true, true, true, true, false, false, false, false, false] rfl rfl (by kernel_rfl) (fun _ _ _ h => h) (Or.inl ⟨by rfl, ?_⟩) ?_ ?_
    rotate_left
    · intro w'
      go_simp
      with_reducible rfl
    rotate_left
    · simp only [Act.put, List.setIfInBounds_toArray, List.set_cons_zero, List.set_cons_succ, i64_w, i32_w]
      rfl
    refine pure_ (i := 11) (N := some 25) (v := ?_) (a' := ?_) #[true, true, true, true, true, true, true, true, true, true, true, true, false, false, false, false] rfl rfl (by kernel_rfl) (fun _ _ _ h => h) (Or.inl ⟨by rfl, ?_⟩) ?_ ?_
    rotate_left
    · intro w'
      go_simp
      with_reducible rfl
    rotate_left
    · simp only [Act.put, List.setIfInBounds_toArray, List.set_cons_zero, List.set_cons_succ, i64_w, i32_w]
      rfl
    refine one_ (i := 12) (N := some 26) #[true, true, true, true, true, true, true, true, true, true, true, true, true, false, false, false] rfl rfl (by kernel_rfl) (by decide) (fun K hK => ?_)
    refine goes_ Tryd.func72 (by kernel_rfl) rfl #[.pointer (some ⟨g, 0, none⟩), .int .u64 (s : Int), .pointer (some ⟨SS, 3, none⟩), .pointer (some ⟨SS, 2, none⟩)] (by rfl) rfl rfl (by simp only [List.map_toArray, List.map_cons, List.map_nil]; rfl) ?_
    refine (HDC.out).mono ?_
    rintro e w4 ⟨rfl, a4, s4, c4⟩
    refine ⟨_, rfl, ?_⟩
    have k4 : w4.cell? ⟨SS, 0, none⟩ = some (.pointer (some ⟨g, 0, none⟩)) := (cell_of_row w4 SS 0 _ _ _ s4).trans rfl
    obtain ⟨Y, hY⟩ : ∃ Y, Y = (delT s t).pp := ⟨_, rfl⟩
    rw [show (delT s t).p = .pointer Y by rw [hY]]
    have HY := Aside0.mk hY
    clear hY
    refine hK.out _ _ k4 (fun hHeld => ?_)
    clear hK K
    refine norm_ (a' := ?_) ?_ ?_
    rotate_left
    · show Act.put _ (some 26) _ = _
      simp only [Act.put, List.setIfInBounds_toArray, List.set_cons_zero, List.set_cons_succ, i64_w, i32_w]
      rfl
    refine pure_ (i := 13) (N := some 27) (v := ?_) (a' := ?_) #[true, true, true, true, true, true, true, true, true, true, true, true, true, true, false, false] rfl rfl (by kernel_rfl) (fun _ _ _ h => h) (Or.inl ⟨by rfl, ?_⟩) ?_ ?_
    rotate_left
    · intro w'
      go_simp
      with_reducible rfl
    rotate_left
    · simp only [Act.put, List.setIfInBounds_toArray, List.set_cons_zero, List.set_cons_succ, i64_w, i32_w]
      rfl
    refine pure_ (i := 14) (N := some 28) (v := ?_) (a' := ?_) #[true, true, true, true, true, true, true, true, true, true, true, true, true, true, true, false] rfl rfl (by kernel_rfl) (fun _ _ _ h => h) (Or.inl ⟨by rfl, ?_⟩) ?_ ?_
    rotate_left
    · intro w'
      go_simp
      with_reducible rfl
    rotate_left
    · simp only [Act.put, List.setIfInBounds_toArray, List.set_cons_zero, List.set_cons_succ, i64_w, i32_w]
      rfl
    have f4 : w4.frozen? ⟨SS, 0, none⟩ = false := by simp [World.frozen?, s4]
    refine last_ (i := 15) (N := none) #[true, true, true, true, true, true, true, true, true, true, true, true, true, true, true, true] rfl rfl (by kernel_rfl) (by decide) (fun K hK => ?_)
    refine skip_ (w1 := ?_) (by rfl) rfl ?_ ?_
    rotate_left
    · go_simp
      rfl
    refine hK.out _ _ ?_
    clear hK K
    refine done_ (by kernel_rfl) ?_
    have sE := setCell_eq_setRow w4 SS 0 _ _ _ (.pointer Y) s4
    obtain ⟨w5, hw5⟩ : ∃ x, x = w4.setCell ⟨SS, 0, none⟩ (.pointer Y) := ⟨_, rfl⟩
    rw [← hw5]
    rw [← hw5] at sE
    obtain ⟨nn5, hnn5⟩ : ∃ z : Int, z = (delT s t).sz := ⟨_, rfl⟩
    have en : (t.sz : Int) - (if delN s t = true then 1 else 0) = nn5 := by
      have := delT_sz s t
      rw [hnn5]
      by_cases e : delN s t = true
      · rw [if_pos e] at this ⊢; omega
      · rw [if_neg e] at this ⊢; omega
    have s5 : w5.heap[SS]? = some (.cells (ssC (.pointer Y) sz nn5 q) 84 (0, 0)) := by
      rw [sE, setRow_heap _ _ _ _ _ _ s4, en, HQ.out.1]
      cases inT s t <;> rfl
    have a5 : (delT s t).at w5 := by
      rw [sE]
      exact at_keep (Chg.row w4 SS _) _ a4 (fun y hy e => HS.out.1 (by rw [List.mem_singleton.1 e] at hy; exact delT_sub s t _ hy))
    have c5 : Chg (SS :: t.bl) w w5 := by
      rw [sE]
      exact ((Chg_drew w).trans c4 (fun x h => absurd h (by simp)) (fun x h _ => h)).trans (Chg.row w4 SS _) (fun x h => h) (fun x h _ => by rw [List.mem_singleton.1 h]; exact List.mem_cons_self)
    have H5 := Aside0.mk (And.intro s5 (And.intro a5 (And.intro c5 (And.intro hnn5 HY.out))))
    have k3 : w5.cell? ⟨SS, 3, none⟩ = some (.bool q) := (cell_of_row w5 SS 3 _ _ _ s5).trans rfl
    have f3 : w5.frozen? ⟨SS, 3, none⟩ = false := by simp [World.frozen?, s5]
    clear sE hw5 hnn5 en s5 a5 c5 a4 s4 c4 k4 f4 HY HDC
    cases q with
    | false =>
      go_wp2_with fail
      go_ret
      obtain ⟨s5, a5, c5, hnn5, hY⟩ := H5.out
      have e2 : t2 = delT s t := by rw [HQ.out.2.1, subT, if_neg (by rw [← HQ.out.1]; simp)]
      refine ⟨rfl, by rw [e2]; exact a5, ?_, c5⟩
      rw [s5, e2, HQ.out.2.2, ← HQ.out.1, hnn5, hY]
      simp
    | true =>
      have e6 : w5.setCell ⟨SS, 3, none⟩ (.bool false) = w5.setRow SS (ssC (.pointer Y) sz nn5 false) := setCell_eq_setRow w5 SS 3 _ _ _ _ H5.out.1
      obtain ⟨w6, hw6⟩ : ∃ x, x = w5.setRow SS (ssC (.pointer Y) sz nn5 false) := ⟨_, rfl⟩
      rw [← hw6] at e6
      have s6 : w6.heap[SS]? = some (.cells (ssC (.pointer Y) sz nn5 false) 84 (0, 0)) := by rw [hw6]; exact setRow_heap _ _ _ _ _ _ H5.out.1
      have k6 : w6.cell? ⟨SS, 1, none⟩ = some (.int .i64 sz) := (cell_of_row w6 SS 1 _ _ _ s6).trans rfl
      have f6 : w6.frozen? ⟨SS, 1, none⟩ = false := by simp [World.frozen?, s6]
      obtain ⟨z6, hz6⟩ : ∃ z : Int, z = sz - 1 := ⟨_, rfl⟩
      have ew : wrap64 (sz - 1) = z6 := Road.w64 _ _ hz6.symm (by have := HS.out.2; omega) (by have := HS.out.2; omega)
      have e7 : w6.setCell ⟨SS, 1, none⟩ (.int .i64 z6) = w6.setRow SS (ssC (.pointer Y) z6 nn5 false) := setCell_eq_setRow w6 SS 1 _ _ _ _ s6
      obtain ⟨w7, hw7⟩ : ∃ x, x = w6.setRow SS (ssC (.pointer Y) z6 nn5 false) := ⟨_, rfl⟩
      rw [← hw7] at e7
      have s7 : w7.heap[SS]? = some (.cells (ssC (.pointer Y) z6 nn5 false) 84 (0, 0)) := by rw [hw7]; exact setRow_heap _ _ _ _ _ _ s6
      have k7 : w7.cell? ⟨SS, 1, none⟩ = some (.int .i64 z6) := (cell_of_row w7 SS 1 _ _ _ s7).trans rfl
      have c57 : Chg [SS] w5 w7 := by rw [hw7, hw6]; exact (Chg.row _ SS _).trans (Chg.row _ SS _) (fun x h => h) (fun x h _ => h)
      have HZ6 := Aside0.mk hz6
      have H7 := Aside0.mk (And.intro s7 c57)
      clear hw6 s6 hz6 hw7 s7 c57
      by_cases c : z6 = 0
      · subst c
        have HC := Aside0.mk (show sz = 1 by have := HZ6.out; omega)
        go_wp2_with fail
        refine (Empty_calls SS _ _ _ _ w7 H7.out.1).mono ?_
        rintro e w8 ⟨rfl, s8, c8⟩
        have H8 := Aside0.mk (And.intro s8 c8)
        clear s8 c8
        go_wp2_with fail
        go_ret
        obtain ⟨s5, a5, c5, hnn5, hY⟩ := H5.out
        have e2 : t2 = .nil := by rw [HQ.out.2.1, subT, if_pos ⟨HQ.out.1.symm, HC.out⟩]
        refine ⟨rfl, by rw [e2]; trivial, ?_, c5.trans (H7.out.2.trans H8.out.2 (fun x h => h) (fun x h _ => h)) (fun x h => h) (fun x h _ => by rw [List.mem_singleton.1 h]; exact List.mem_cons_self)⟩
        rw [H8.out.1, e2, HQ.out.2.2, ← HQ.out.1, HC.out]
        rfl
      · have d1 : (z6 == 0) = false := beq_eq_false_iff_ne.2 c
        have d2 : decide (z6 = 0) = false := decide_eq_false c
        have HC := Aside0.mk (show ¬ sz = 1 by have := HZ6.out; omega)
        clear c
        go_wp2_with fail
        go_ret
        obtain ⟨s5, a5, c5, hnn5, hY⟩ := H5.out
        have e2 : t2 = delT s t := by rw [HQ.out.2.1, subT, if_neg (fun h => HC.out h.2)]
        refine ⟨rfl, by rw [e2]; exact at_keep H7.out.2 _ a5 (fun y hy e => HS.out.1 (by rw [List.mem_singleton.1 e] at hy; exact delT_sub s t _ hy)), ?_, c5.trans H7.out.2 (fun x h => h) (fun x h _ => by rw [List.mem_singleton.1 h]; exact List.mem_cons_self)⟩
        rw [H7.out.1, e2, HQ.out.2.2, ← HQ.out.1, ← hnn5, hY, HZ6.out]
        rfl
/-! ### the lowest bit -/
set_option maxHeartbeats 1000000 in
theorem tz_core (x k idx : Nat) (w : World) (hx0 : ((x : Int) == 0) = false)
    (key : IntKind.u64.wrap (bits BinOp.and IntKind.u64 (x : Int) (IntKind.u64.wrap (-(x : Int))) * 285870213051353865) / 288230376151711744 = (idx : Int))
    (hi : idx < 64) (hk : k < 64) (hcell : w.cell? ⟨3, idx, none⟩ = some (.int .u8 k)) :
    Calls Tryd.prog 64 #[.int .u64 x] w fun e w' => e = .returned (.int .i64 k) ∧ w' = w := by
  go_enter Tryd.func64, Tryd.ntmps64
  go_wp2_with (simp only [key])
  go_ret
  exact ⟨rfl, rfl⟩
theorem tz_calls (x : Nat) (hx : x < 18446744073709551616) (hx0 : x ≠ 0) (w : World) (hT : TabAt 3 Lib.deBruijn64tab w) :
    Calls Tryd.prog 64 #[.int .u64 (x : Int)] w fun e w' => e = .returned (.int .i64 (Lib.ctz 64 x : Nat)) ∧ w' = w := by
  obtain ⟨hlow, hk⟩ := Lib.lowest_bit 64 x hx0 hx
  obtain ⟨hi, htab⟩ := Lib.deBruijn64_at _ hk
  have hcell := hT _ hi
  rw [htab] at hcell
  exact tz_core x _ _ w (by simp; omega) (tz64_key x _ hx hx0 hlow) hi hk hcell
/-- A number's bits, upward. -/
def bitsOf (z : Nat) : List Nat := (List.range 64).filter (fun j => z.testBit j)
theorem bitsOf_zero : bitsOf 0 = [] := by simp [bitsOf]
theorem ctz_odd (z : Nat) (h0 : z ≠ 0) (hz : z < 2 ^ 64) : ∃ m, z = 2 ^ Lib.ctz 64 z * (2 * m + 1) ∧ Lib.ctz 64 z < 64 := by
  unfold Lib.ctz
  rw [if_neg h0]
  exact Lib.ctzFrom_spec 64 z (by omega) hz
theorem odd_bit (m k j : Nat) : (2 ^ k * (2 * m + 1)).testBit j = (decide (k ≤ j) && (j == k || m.testBit (j - k - 1))) := by
  rw [Nat.testBit_two_pow_mul]
  by_cases h : k ≤ j
  · obtain ⟨d, rfl⟩ := Nat.exists_eq_add_of_le h
    rw [show k + d - k = d by omega]
    simp only [h, decide_true, Bool.true_and]
    cases d with
    | zero => simp [Nat.testBit_zero]
    | succ d =>
      rw [show d + 1 - 1 = d by omega, Nat.testBit_succ, show (2 * m + 1) / 2 = m by omega]
      have : ((k + (d + 1)) == k) = false := by simp
      simp [this]
  · simp [h]
theorem low_gone (m k : Nat) : 2 ^ k * (2 * m + 1) &&& (2 ^ k * (2 * m + 1) - 1) = 2 ^ (k + 1) * m := by
  have e : 2 ^ k * (2 * m + 1) - 1 = 2 ^ (k + 1) * m + (2 ^ k - 1) := by
    have h1 : 2 ^ k * (2 * m + 1) = 2 ^ (k + 1) * m + 2 ^ k := by rw [Nat.mul_add, Nat.mul_one, Nat.pow_succ, Nat.mul_assoc]
    have := Nat.two_pow_pos k
    omega
  apply Nat.eq_of_testBit_eq
  intro j
  rw [Nat.testBit_and, odd_bit, e, Nat.testBit_two_pow_mul_add _ (Nat.lt_of_lt_of_le (Nat.sub_lt (Nat.two_pow_pos k) Nat.one_pos) (Nat.pow_le_pow_right (by decide) (Nat.le_succ k))), Nat.testBit_two_pow_mul]
  by_cases h : j < k + 1
  · rw [if_pos h, Nat.testBit_two_pow_sub_one]
    have h2 : ¬ k + 1 ≤ j := by omega
    by_cases h3 : k ≤ j
    · have : ¬ j < k := by omega
      simp [h2, this]
    · simp [h2, h3]
  · rw [if_neg h]
    have h1 : k + 1 ≤ j := by omega
    have h2 : k ≤ j := by omega
    have h3 : (j == k) = false := by simp; omega
    rw [show j - (k + 1) = j - k - 1 by omega]
    simp [h1, h2, h3]
theorem bitsOf_step (z : Nat) (h0 : z ≠ 0) (hz : z < 2 ^ 64) : bitsOf z = Lib.ctz 64 z :: bitsOf (z &&& (z - 1)) := by
  obtain ⟨m, hm, hk⟩ := ctz_odd z h0 hz
  obtain ⟨k, hk'⟩ : ∃ k, k = Lib.ctz 64 z := ⟨_, rfl⟩
  rw [← hk'] at hm hk ⊢
  have e : List.range 64 = List.range' 0 k ++ k :: List.range' (k + 1) (63 - k) := by
    rw [List.range_eq_range', show (64 : Nat) = k + (1 + (63 - k)) by omega, ← List.range'_append_1, Nat.zero_add, ← List.range'_append_1]
    rfl
  have hz1 : ∀ j, z.testBit j = (decide (k ≤ j) && (j == k || m.testBit (j - k - 1))) := fun j => by rw [hm]; exact odd_bit m k j
  have hz2 : ∀ j, (z &&& (z - 1)).testBit j = (decide (k + 1 ≤ j) && m.testBit (j - (k + 1))) := fun j => by rw [hm, low_gone, Nat.testBit_two_pow_mul]
  unfold bitsOf
  rw [e, List.filter_append, List.filter_append, List.filter_cons, List.filter_cons]
  have f1 : (List.range' 0 k).filter (fun j => z.testBit j) = [] := by
    rw [List.filter_eq_nil_iff]
    intro j hj
    rw [List.mem_range'_1] at hj
    rw [hz1]
    have : ¬ k ≤ j := by omega
    simp [this]
  have f2 : (List.range' 0 k).filter (fun j => (z &&& (z - 1)).testBit j) = [] := by
    rw [List.filter_eq_nil_iff]
    intro j hj
    rw [List.mem_range'_1] at hj
    rw [hz2]
    have : ¬ k + 1 ≤ j := by omega
    simp [this]
  have f3 : (List.range' (k + 1) (63 - k)).filter (fun j => z.testBit j) = (List.range' (k + 1) (63 - k)).filter (fun j => (z &&& (z - 1)).testBit j) := by
    apply List.filter_congr
    intro j hj
    rw [List.mem_range'_1] at hj
    rw [hz1, hz2]
    have h1 : k ≤ j := by omega
    have h2 : k + 1 ≤ j := by omega
    have h3 : (j == k) = false := by simp; omega
    rw [show j - (k + 1) = j - k - 1 by omega]
    simp [h1, h2, h3]
  have b1 : z.testBit k = true := by rw [hz1]; simp
  have b2 : (z &&& (z - 1)).testBit k = false := by rw [hz2, decide_eq_false (by omega), Bool.false_and]
  rw [f1, f2, f3, b1, b2]
  simp
theorem mem_bitsOf {z j : Nat} (hz : z < 2 ^ 64) : j ∈ bitsOf z ↔ z.testBit j = true := by
  unfold bitsOf
  rw [List.mem_filter, List.mem_range]
  refine ⟨fun h => h.2, fun h => ⟨?_, h⟩⟩
  rcases Nat.lt_or_ge j 64 with h1 | h1
  · exact h1
  · rw [Nat.testBit_lt_two_pow (Nat.lt_of_lt_of_le hz (Nat.pow_le_pow_right (by decide) h1))] at h
    exact absurd h (by simp)
/-- A node's numbers, upward. -/
def ownF (b : Nat) : List Nat → List Nat
  | [] => []
  | z :: zs => (bitsOf z).map (b + ·) ++ ownF (b + 64) zs
def Tr.nums : Tr → List Nat
  | .nil => []
  | .node _ b bs l r _ => l.nums ++ (ownF b bs ++ r.nums)
def Road_natOf : Value → Nat
  | .int _ z => z.toNat
  | _ => 0
structure Low (base : Nat) (G : List Nat) (w w' : World) : Prop where
  os : w'.os = w.os
  tape : w'.tape = w.tape
  output : w'.output = w.output
  size : w.heap.size ≤ w'.heap.size
  keep : ∀ k, k < base → k ∉ G → w'.heap[k]? = w.heap[k]?
theorem Low.refl (base : Nat) (G : List Nat) (w : World) : Low base G w w := ⟨rfl, rfl, rfl, Nat.le_refl _, fun _ _ _ => rfl⟩
theorem Low.trans {base : Nat} {G : List Nat} {a b c : World} (h : Low base G a b) (k : Low base G b c) : Low base G a c :=
  ⟨k.os.trans h.os, k.tape.trans h.tape, k.output.trans h.output, Nat.le_trans h.size k.size, fun i hi hn => (k.keep i hi hn).trans (h.keep i hi hn)⟩
theorem at_low {base : Nat} {G : List Nat} {w w' : World} (hc : Low base G w w') : ∀ t : Tr, t.at w → (∀ x ∈ t.bl, x < base ∧ x ∉ G) → t.at w'
  | .nil, _, _ => trivial
  | .node g b bs l r h, ⟨h1, h2, h3, h4⟩, hd => by
    refine ⟨h1, ?_, at_low hc l h3 (fun x hx => hd x (by simp [Tr.bl, hx])), at_low hc r h4 (fun x hx => hd x (by simp [Tr.bl, hx]))⟩
    rw [hc.keep g (hd g (by simp [Tr.bl])).1 (hd g (by simp [Tr.bl])).2]
    exact h2
theorem cell_of_heap {w w' : World} {k : Nat} (h : w'.heap[k]? = w.heap[k]?) (j : Nat) : w'.cell? ⟨k, j, none⟩ = w.cell? ⟨k, j, none⟩ := by
  unfold World.cell?
  rw [h]
theorem tab_low {base : Nat} {G : List Nat} {w w' : World} (hc : Low base G w w') {g : Nat} {tab : List Nat} (h1 : g < base) (h2 : g ∉ G) (h : TabAt g tab w) : TabAt g tab w' :=
  fun j hj => (cell_of_heap (hc.keep g h1 h2) j).trans (h j hj)
/-- The walk over numbers: what was given thus far, and whether it came to its end. -/
def runL (go : List Nat → Nat → Bool) : List Nat → List Nat → List Nat × Bool
  | L, [] => (L, true)
  | L, n :: ns => if go L n = true then runL go (L ++ [n]) ns else (L ++ [n], false)
theorem runL_append (go : List Nat → Nat → Bool) : ∀ (a b L : List Nat), runL go L (a ++ b) = if (runL go L a).2 = true then runL go (runL go L a).1 b else runL go L a
  | [], b, L => by simp [runL]
  | n :: a, b, L => by
    rw [List.cons_append, runL, runL]
    by_cases h : go L n = true
    · rw [if_pos h, if_pos h]; exact runL_append go a b _
    · rw [if_neg h, if_neg h]; simp
theorem runL_full (go : List Nat → Nat → Bool) : ∀ (a L : List Nat), (runL go L a).2 = true → (runL go L a).1 = L ++ a
  | [], L, _ => by simp [runL]
  | n :: a, L, h => by
    rw [runL] at h ⊢
    by_cases c : go L n = true
    · rw [if_pos c] at h ⊢
      rw [runL_full go a _ h, List.append_assoc]
      rfl
    · rw [if_neg c] at h
      exact absurd h (by simp)
theorem and_u64 (a b : Nat) (ha : a < 2 ^ 64) (hb : b < 2 ^ 64) : bits .and .u64 (a : Int) (b : Int) = ((a &&& b : Nat) : Int) := (bits_nat .u64 64 (by decide) wraps_u64 a b ha hb).1
set_option maxHeartbeats 16000000 in
set_option maxRecDepth 100000 in
theorem iterF_calls (N base : Nat) (G : List Nat) (I : List Nat → World → Prop) (go : List Nat → Nat → Bool) (Bo Bm : Nat)
    (hF : ∀ (L : List Nat) (n : Nat) (w : World), I L w → L.length < N → n < 18446744073709549568 → Calls Tryd.prog 32 #[.int .u64 (n : Int), .pointer (some ⟨Bo, 0, none⟩), .pointer (some ⟨Bm, 0, none⟩)] w fun e w' => e = .returned (.bool (go L n)) ∧ I (L ++ [n]) w' ∧ Low base G w w')
    (hgT : 3 < base ∧ 3 ∉ G) : ∀ (t : Tr) (L : List Nat) (w : World), t.at w → t.fit → I L w → TabAt 3 Lib.deBruijn64tab w → (∀ x ∈ t.bl, x < base ∧ x ∉ G) → L.length + t.nums.length ≤ N →
    Calls Tryd.prog 49 #[t.p, .func (.func 32) #[] #[.pointer (some ⟨Bo, 0, none⟩), .pointer (some ⟨Bm, 0, none⟩)]] w fun e w' => e = .returned (.bool (runL go L t.nums).2) ∧ I (runL go L t.nums).1 w' ∧ Low base G w w' := by
  intro t
  induction t with
  | nil =>
    intro L w ha hf hI hT hd hN
    show Calls Tryd.prog 49 #[.pointer none, .func (.func 32) #[] #[.pointer (some ⟨Bo, 0, none⟩), .pointer (some ⟨Bm, 0, none⟩)]] w fun e w' => e = .returned (.bool true) ∧ I L w' ∧ Low base G w w'
    have HI := Aside0.mk hI
    clear ha hf hI hT hd hF hgT hN
    go_enter Tryd.func49, Tryd.ntmps49
    go_wp2_with fail
    go_ret
    exact ⟨rfl, HI.out, Low.refl _ _ _⟩
  | node g b bs l r h0 ihl ihr =>
    intro L w ha hf hI hT hd hN
    show Calls Tryd.prog 49 #[.pointer (some ⟨g, 0, none⟩), .func (.func 32) #[] #[.pointer (some ⟨Bo, 0, none⟩), .pointer (some ⟨Bm, 0, none⟩)]] w _
    obtain ⟨RB, hRB⟩ : ∃ x, x = runL go L (Tr.node g b bs l r h0).nums := ⟨_, rfl⟩
    rw [← hRB]
    have kl : w.cell? ⟨g, 33, none⟩ = some (.pointer l.pp) := nd_l ha.2.1 ha.1
    have hdl : ∀ x ∈ l.bl, x < base ∧ x ∉ G := fun x hx => hd x (List.mem_cons_of_mem _ (List.mem_append_left _ hx))
    have hdr : ∀ x ∈ r.bl, x < base ∧ x ∉ G := fun x hx => hd x (List.mem_cons_of_mem _ (List.mem_append_right _ hx))
    have hdg : g < base ∧ g ∉ G := hd g List.mem_cons_self
    have HH := Aside0.mk (And.intro ha (And.intro hf (And.intro hT (And.intro hdl (And.intro hdr hdg)))))
    have hN' : L.length + (l.nums.length + ((ownF b bs).length + r.nums.length)) ≤ N := by rw [Tr.nums, List.length_append, List.length_append] at hN; exact hN
    have HR := Aside0.mk (And.intro hRB hgT)
    have HN := Aside0.mk hN'
    have HFF := Aside0.mk hF
    have HI := Aside0.mk hI
    clear ha hf hI hT hd hdl hdr hdg hRB hgT hF hN hN'
    go_enter Tryd.func49, Tryd.ntmps49
    go_wp2_with fail
    refine (ihl L w HH.out.1.2.2.1 HH.out.2.1.2.2.1 HI.out HH.out.2.2.1 HH.out.2.2.2.1 (by have := HN.out; omega)).mono ?_
    rintro e w1 ⟨rfl, i1, l1⟩
    obtain ⟨q, hq⟩ : ∃ q, q = (runL go L l.nums).2 := ⟨_, rfl⟩
    obtain ⟨L1, hL1⟩ : ∃ q, q = (runL go L l.nums).1 := ⟨_, rfl⟩
    rw [← hL1] at i1
    rw [← hq]
    have H1 := Aside0.mk (And.intro i1 (And.intro l1 (And.intro hq hL1)))
    clear i1 l1 hq hL1 kl ihl HI
    cases q with
    | false =>
      go_wp2_with fail
      go_ret
      obtain ⟨i1, l1, hq, hL1⟩ := H1.out
      have e : RB = runL go L l.nums := by rw [HR.out.1, Tr.nums, runL_append, if_neg (by rw [← hq]; simp)]
      rw [e, ← hq, ← hL1]
      exact ⟨rfl, i1, l1⟩
    | true =>
      have e1 : RB = runL go L1 (ownF (b + 64 * 0) (bs.drop 0) ++ r.nums) := by
        rw [HR.out.1, Tr.nums, runL_append, if_pos H1.out.2.2.1.symm, ← H1.out.2.2.2]
        rfl
      have a1 : Tr.at w1 (Tr.node g b bs l r h0) := at_low H1.out.2.1 (Tr.node g b bs l r h0) HH.out.1 (fun x hx => (List.mem_cons.1 hx).elim (fun e => e ▸ HH.out.2.2.2.2.2) (fun e => (List.mem_append.1 e).elim (HH.out.2.2.2.1 x) (HH.out.2.2.2.2.1 x)))
      have hN1 : L1.length + (ownF (b + 64 * 0) (bs.drop 0) ++ r.nums).length ≤ N := by
        rw [H1.out.2.2.2, runL_full go l.nums L H1.out.2.2.1.symm, List.length_append, List.length_append]
        have := HN.out
        show L.length + l.nums.length + ((ownF b bs).length + r.nums.length) ≤ N
        omega
      have HE1 := Aside0.mk (And.intro e1 (And.intro a1 hN1))
      obtain ⟨LL, hLL⟩ : ∃ LL, LL = bs.map (fun z : Nat => Value.int .u64 (z : Int)) := ⟨_, rfl⟩
      have HRG := Aside0.mk (show w1.rangeAt g 1 LL by rw [hLL]; exact range_bits a1.1 a1.2.1)
      have HLL := Aside0.mk (show (Tryd.prog.info? 86).map (·.size) = some LL.length by rw [hLL, List.length_map, a1.1]; kernel_rfl)
      have HL2 := Aside0.mk hLL
      clear e1 a1 hLL hN1
      go_wp2_with (first | ((with_reducible refine gate_dst (N := 24) rfl ?_); refine wpList_load_mid rfl 86 (.tmp 23) rfl g 1 rfl LL _ HRG.out Tryd.underlying86 (by rfl) HLL.out ?_))
      go_loopw [25] (fun v25 wx => ∃ (k : Nat) (L2 : List Nat), v25 = .int .i64 (k : Int) ∧ Aside0 (k ≤ 32) ∧ Aside0 (RB = runL go L2 (ownF (b + 64 * k) (bs.drop k) ++ r.nums) ∧ L2.length + (ownF (b + 64 * k) (bs.drop k) ++ r.nums).length ≤ N) ∧ Aside0 (I L2 wx ∧ Low base G w1 wx)) (fun v25 _ => Road.leftOf 32 v25)
      case atStart => exact ⟨0, L1, rfl, ⟨by omega⟩, ⟨HE1.out.1, HE1.out.2.2⟩, ⟨H1.out.1, Low.refl _ _ _⟩⟩
      case round =>
        obtain ⟨k, L2, rfl, HK, HRB, HIL⟩ := hrel
        have aw : Tr.at wr (Tr.node g b bs l r h0) := at_low HIL.out.2 (Tr.node g b bs l r h0) HE1.out.2.1 (fun x hx => (List.mem_cons.1 hx).elim (fun e => e ▸ HH.out.2.2.2.2.2) (fun e => (List.mem_append.1 e).elim (HH.out.2.2.2.1 x) (HH.out.2.2.2.2.1 x)))
        rcases Nat.lt_or_ge k 32 with hk | hk
        · have k1' := eq_true (show (k : Int) < 32 by omega)
          have k2' := eq_true hk
          obtain ⟨zk, hzk⟩ : ∃ zk, zk = bs.getD k 0 := ⟨_, rfl⟩
          have hkl : k < bs.length := by rw [aw.1]; exact hk
          have hzk2 : zk = bs[k] := by rw [hzk, List.getD_eq_getElem?_getD, List.getElem?_eq_getElem hkl]; rfl
          have ix : LL[k]? = some (.int .u64 (zk : Int)) := by
            rw [HL2.out, List.getElem?_map, hzk2, List.getElem?_eq_getElem hkl]
            rfl
          have hix := run_index_bits LL k zk wr hk ix
          have cb := nd_base aw.2.1
          have hb64 : b + 4096 ≤ 18446744073709551616 := HH.out.2.1.1
          have u1 : IntKind.u64.wrap (k : Int) = (k : Int) := Road.wu64 _ _ rfl (by omega) (by omega)
          obtain ⟨m, hm⟩ : ∃ m, m = 64 * k := ⟨_, rfl⟩
          have u2 : IntKind.u64.wrap ((k : Int) * 64) = (m : Int) := Road.wu64 _ _ (by omega) (by omega) (by omega)
          obtain ⟨B, hB⟩ : ∃ B, B = b + m := ⟨_, rfl⟩
          have u3 : IntKind.u64.wrap ((b : Int) + (m : Int)) = (B : Int) := Road.wu64 _ _ (by omega) (by omega) (by omega)
          have hdrop : ownF (b + 64 * k) (bs.drop k) = (bitsOf zk).map (B + ·) ++ ownF (B + 64) (bs.drop (k + 1)) := by
            rw [List.drop_eq_getElem_cons hkl, ownF, hB, hm, hzk2]
          have hB64 : B + 64 ≤ 18446744073709549568 := by omega
          have hz64 : zk < 18446744073709551616 := by rw [hzk2]; exact HH.out.2.1.2.1 _ (List.getElem_mem hkl)
          have HZ := Aside0.mk (And.intro hk (And.intro hdrop (And.intro hB64 (And.intro hz64 (And.intro hB hm)))))
          clear hk hzk hzk2 hkl ix hb64 hm hB hdrop hB64 hz64 aw
          go_upto_region 10 with fail
          go_loopw [7] (fun v7 wx => ∃ (y : Nat) (L3 : List Nat), v7 = .int .u64 (y : Int) ∧ Aside0 (y < 18446744073709551616) ∧ Aside0 (RB = runL go L3 ((bitsOf y).map (B + ·) ++ (ownF (B + 64) (bs.drop (k + 1)) ++ r.nums)) ∧ L3.length + ((bitsOf y).map (B + ·) ++ (ownF (B + 64) (bs.drop (k + 1)) ++ r.nums)).length ≤ N) ∧ Aside0 (I L3 wx ∧ Low base G w1 wx)) (fun v7 _ => Road_natOf v7)
          case atStart => exact ⟨zk, L2, rfl, ⟨HZ.out.2.2.2.1⟩, ⟨by rw [HRB.out.1, HZ.out.2.1, List.append_assoc], by have := HRB.out.2; rw [HZ.out.2.1, List.append_assoc] at this; exact this⟩, HIL⟩
          case round =>
            obtain ⟨y, L3, rfl, HY, HRB3, HIL3⟩ := hrel
            by_cases hy0 : y = 0
            · have z1 : ((y : Int) != 0) = false := bne_eq_false_iff_eq.2 (by omega)
              have z2 : decide (y = 0) = true := decide_eq_true hy0
              have z3 := eq_true hy0
              have HY0 := Aside0.mk hy0
              clear hy0
              go_wp2_with fail
              go_roundw
              case rel =>
                have hBk : b + 64 * (k + 1) = B + 64 := by have := HZ.out.2.2.2.2; omega
                refine ⟨k + 1, L3, ?_, ⟨HZ.out.1⟩, ⟨?_, ?_⟩, HIL3⟩
                · rw [Road.w64 ((k : Int) + 1) ((k + 1 : Nat) : Int) (by omega) (by omega) (by have := HZ.out.1; omega)]
                · rw [HRB3.out.1, HY0.out, bitsOf_zero, List.map_nil, List.nil_append, hBk]
                · have := HRB3.out.2
                  rw [HY0.out, bitsOf_zero, List.map_nil, List.nil_append] at this
                  rw [hBk]
                  exact this
              case measure =>
                rw [Road.w64 ((k : Int) + 1) ((k + 1 : Nat) : Int) (by omega) (by omega) (by have := HZ.out.1; omega)]
                exact Road.leftOf_lt HZ.out.1
            · have z1 : ((y : Int) != 0) = true := bne_iff_ne.2 (fun e => hy0 (Int.ofNat.inj e))
              have z2 : decide (y = 0) = false := decide_eq_false hy0
              have z3 := eq_false hy0
              obtain ⟨c, hc⟩ : ∃ c, c = Lib.ctz 64 y := ⟨_, rfl⟩
              have hc64 : c < 64 := by rw [hc]; exact (Lib.lowest_bit 64 y hy0 HY.out).2
              have u4 : IntKind.u64.wrap (c : Int) = (c : Int) := Road.wu64 _ _ rfl (by omega) (by omega)
              obtain ⟨n, hn⟩ : ∃ n, n = B + c := ⟨_, rfl⟩
              have hn64 : n < 18446744073709549568 := by have := HZ.out.2.2.1; omega
              have u5 : IntKind.u64.wrap ((B : Int) + (c : Int)) = (n : Int) := Road.wu64 _ _ (by omega) (by omega) (by omega)
              have hys : (bitsOf y).map (B + ·) = n :: (bitsOf (y &&& (y - 1))).map (B + ·) := by rw [bitsOf_step y hy0 HY.out, hn, hc]; rfl
              obtain ⟨y1, hy1⟩ : ∃ x, x = y - 1 := ⟨_, rfl⟩
              have u6 : IntKind.u64.wrap ((y : Int) - 1) = (y1 : Int) := Road.wu64 _ _ (by omega) (by omega) (by have := HY.out; omega)
              obtain ⟨y2, hy2⟩ : ∃ x, x = y &&& y1 := ⟨_, rfl⟩
              have u7 : bits .and .u64 (y : Int) (y1 : Int) = (y2 : Int) := by rw [hy2]; exact and_u64 y y1 HY.out (by have := HY.out; omega)
              have hy2l : y2 < y := by
                have : y2 ≤ y1 := by rw [hy2]; exact Nat.and_le_right
                omega
              have htz := tz_calls y HY.out hy0 wr (tab_low (HIL3.out.2) HR.out.2.1 HR.out.2.2 (tab_low H1.out.2.1 HR.out.2.1 HR.out.2.2 HH.out.2.2.1))
              rw [← hc] at htz
              rw [hy1] at hy2
              have HC := Aside0.mk (And.intro hn64 (And.intro hys (And.intro hy2 hy2l)))
              clear hy0 hc hc64 hn hn64 hys hy1 hy2 hy2l
              go_wp2_with fail
              refine htz.mono ?_
              clear htz
              rintro e w5 ⟨rfl, rfl⟩
              go_wp2_with fail
              refine (HFF.out L3 n w5 HIL3.out.1 (by have := HRB3.out.2; rw [HC.out.2.1, List.cons_append, List.length_cons] at this; omega) HC.out.1).mono ?_
              rintro e w6 ⟨rfl, i6, l6⟩
              obtain ⟨q2, hq2⟩ : ∃ q2, q2 = go L3 n := ⟨_, rfl⟩
              rw [← hq2]
              have H6 := Aside0.mk (And.intro i6 (And.intro l6 hq2))
              clear i6 l6 hq2
              cases q2 with
              | false =>
                go_wp2_with fail
                go_ret
                have e : RB = (L3 ++ [n], false) := by rw [HRB3.out.1, HC.out.2.1, List.cons_append, runL, if_neg (by rw [← H6.out.2.2]; simp)]
                rw [e]
                exact ⟨rfl, H6.out.1, H1.out.2.1.trans (HIL3.out.2.trans H6.out.2.1)⟩
              | true =>
                go_wp2_with fail
                go_roundw
                case rel =>
                  refine ⟨y2, L3 ++ [n], rfl, ⟨by have := HC.out.2.2.2; have := HY.out; omega⟩, ⟨?_, ?_⟩, ⟨H6.out.1, HIL3.out.2.trans H6.out.2.1⟩⟩
                  · rw [HRB3.out.1, HC.out.2.1, List.cons_append, runL, if_pos H6.out.2.2.symm, HC.out.2.2.1]
                  · have := HRB3.out.2
                    rw [HC.out.2.1, List.cons_append, List.length_cons, ← HC.out.2.2.1] at this
                    rw [List.length_append, List.length_singleton]
                    omega
                case measure =>
                  show (y2 : Int).toNat < (y : Int).toNat
                  have := HC.out.2.2.2
                  omega
        · obtain rfl : k = 32 := by have := HK.out; omega
          have kr : wr.cell? ⟨g, 34, none⟩ = some (.pointer r.pp) := nd_r aw.2.1 aw.1
          have hrb4 : RB = runL go L2 r.nums := by
            rw [HRB.out.1, List.drop_of_length_le (Nat.le_of_eq aw.1)]
            rfl
          have hN4 : L2.length + r.nums.length ≤ N := by
            have := HRB.out.2
            rw [List.drop_of_length_le (Nat.le_of_eq aw.1)] at this
            exact this
          have HN4 := Aside0.mk hN4
          clear hN4
          have HRB4 := Aside0.mk hrb4
          clear hrb4
          have HAR := Aside0.mk aw.2.2.2
          clear hk aw
          go_wp2_with fail
          refine (ihr L2 wr HAR.out HH.out.2.1.2.2.2 HIL.out.1 (tab_low HIL.out.2 HR.out.2.1 HR.out.2.2 (tab_low H1.out.2.1 HR.out.2.1 HR.out.2.2 HH.out.2.2.1)) HH.out.2.2.2.2.1 HN4.out).mono ?_
          rintro e w6 ⟨rfl, i6, l6⟩
          rw [← HRB4.out] at i6 ⊢
          have H6 := Aside0.mk (And.intro i6 l6)
          clear i6 l6
          obtain ⟨q2, hq2⟩ : ∃ q2, q2 = RB.2 := ⟨_, rfl⟩
          rw [← hq2]
          have HQ2 := Aside0.mk hq2
          clear hq2
          cases q2 with
          | false =>
            go_wp2_with fail
            go_ret
            exact ⟨by rw [← HQ2.out]; rfl, H6.out.1, H1.out.2.1.trans (HIL.out.2.trans H6.out.2)⟩
          | true =>
            go_wp2_with fail
            go_ret
            exact ⟨by rw [← HQ2.out]; rfl, H6.out.1, H1.out.2.1.trans (HIL.out.2.trans H6.out.2)⟩
set_option maxHeartbeats 16000000 in
set_option maxRecDepth 100000 in
theorem iterA_calls (N base : Nat) (G : List Nat) (I : List Nat → World → Prop) (go : List Nat → Nat → Bool) (Bo : Nat)
    (hF : ∀ (L : List Nat) (n : Nat) (w : World), I L w → L.length < N → n < 18446744073709549568 → Calls Tryd.prog 53 #[.int .u64 (n : Int), .pointer (some ⟨Bo, 0, none⟩)] w fun e w' => e = .returned (.bool (go L n)) ∧ I (L ++ [n]) w' ∧ Low base G w w')
    (hgT : 3 < base ∧ 3 ∉ G) : ∀ (t : Tr) (L : List Nat) (w : World), t.at w → t.fit → I L w → TabAt 3 Lib.deBruijn64tab w → (∀ x ∈ t.bl, x < base ∧ x ∉ G) → L.length + t.nums.length ≤ N →
    Calls Tryd.prog 49 #[t.p, .func (.func 53) #[] #[.pointer (some ⟨Bo, 0, none⟩)]] w fun e w' => e = .returned (.bool (runL go L t.nums).2) ∧ I (runL go L t.nums).1 w' ∧ Low base G w w' := by
  intro t
  induction t with
  | nil =>
    intro L w ha hf hI hT hd hN
    show Calls Tryd.prog 49 #[.pointer none, .func (.func 53) #[] #[.pointer (some ⟨Bo, 0, none⟩)]] w fun e w' => e = .returned (.bool true) ∧ I L w' ∧ Low base G w w'
    have HI := Aside0.mk hI
    clear ha hf hI hT hd hF hgT hN
    go_enter Tryd.func49, Tryd.ntmps49
    go_wp2_with fail
    go_ret
    exact ⟨rfl, HI.out, Low.refl _ _ _⟩
  | node g b bs l r h0 ihl ihr =>
    intro L w ha hf hI hT hd hN
    show Calls Tryd.prog 49 #[.pointer (some ⟨g, 0, none⟩), .func (.func 53) #[] #[.pointer (some ⟨Bo, 0, none⟩)]] w _
    obtain ⟨RB, hRB⟩ : ∃ x, x = runL go L (Tr.node g b bs l r h0).nums := ⟨_, rfl⟩
    rw [← hRB]
    have kl : w.cell? ⟨g, 33, none⟩ = some (.pointer l.pp) := nd_l ha.2.1 ha.1
    have hdl : ∀ x ∈ l.bl, x < base ∧ x ∉ G := fun x hx => hd x (List.mem_cons_of_mem _ (List.mem_append_left _ hx))
    have hdr : ∀ x ∈ r.bl, x < base ∧ x ∉ G := fun x hx => hd x (List.mem_cons_of_mem _ (List.mem_append_right _ hx))
    have hdg : g < base ∧ g ∉ G := hd g List.mem_cons_self
    have HH := Aside0.mk (And.intro ha (And.intro hf (And.intro hT (And.intro hdl (And.intro hdr hdg)))))
    have hN' : L.length + (l.nums.length + ((ownF b bs).length + r.nums.length)) ≤ N := by rw [Tr.nums, List.length_append, List.length_append] at hN; exact hN
    have HR := Aside0.mk (And.intro hRB hgT)
    have HN := Aside0.mk hN'
    have HFF := Aside0.mk hF
    have HI := Aside0.mk hI
    clear ha hf hI hT hd hdl hdr hdg hRB hgT hF hN hN'
    go_enter Tryd.func49, Tryd.ntmps49
    go_wp2_with fail
    refine (ihl L w HH.out.1.2.2.1 HH.out.2.1.2.2.1 HI.out HH.out.2.2.1 HH.out.2.2.2.1 (by have := HN.out; omega)).mono ?_
    rintro e w1 ⟨rfl, i1, l1⟩
    obtain ⟨q, hq⟩ : ∃ q, q = (runL go L l.nums).2 := ⟨_, rfl⟩
    obtain ⟨L1, hL1⟩ : ∃ q, q = (runL go L l.nums).1 := ⟨_, rfl⟩
    rw [← hL1] at i1
    rw [← hq]
    have H1 := Aside0.mk (And.intro i1 (And.intro l1 (And.intro hq hL1)))
    clear i1 l1 hq hL1 kl ihl HI
    cases q with
    | false =>
      go_wp2_with fail
      go_ret
      obtain ⟨i1, l1, hq, hL1⟩ := H1.out
      have e : RB = runL go L l.nums := by rw [HR.out.1, Tr.nums, runL_append, if_neg (by rw [← hq]; simp)]
      rw [e, ← hq, ← hL1]
      exact ⟨rfl, i1, l1⟩
    | true =>
      have e1 : RB = runL go L1 (ownF (b + 64 * 0) (bs.drop 0) ++ r.nums) := by
        rw [HR.out.1, Tr.nums, runL_append, if_pos H1.out.2.2.1.symm, ← H1.out.2.2.2]
        rfl
      have a1 : Tr.at w1 (Tr.node g b bs l r h0) := at_low H1.out.2.1 (Tr.node g b bs l r h0) HH.out.1 (fun x hx => (List.mem_cons.1 hx).elim (fun e => e ▸ HH.out.2.2.2.2.2) (fun e => (List.mem_append.1 e).elim (HH.out.2.2.2.1 x) (HH.out.2.2.2.2.1 x)))
      have hN1 : L1.length + (ownF (b + 64 * 0) (bs.drop 0) ++ r.nums).length ≤ N := by
        rw [H1.out.2.2.2, runL_full go l.nums L H1.out.2.2.1.symm, List.length_append, List.length_append]
        have := HN.out
        show L.length + l.nums.length + ((ownF b bs).length + r.nums.length) ≤ N
        omega
      have HE1 := Aside0.mk (And.intro e1 (And.intro a1 hN1))
      obtain ⟨LL, hLL⟩ : ∃ LL, LL = bs.map (fun z : Nat => Value.int .u64 (z : Int)) := ⟨_, rfl⟩
      have HRG := Aside0.mk (show w1.rangeAt g 1 LL by rw [hLL]; exact range_bits a1.1 a1.2.1)
      have HLL := Aside0.mk (show (Tryd.prog.info? 86).map (·.size) = some LL.length by rw [hLL, List.length_map, a1.1]; kernel_rfl)
      have HL2 := Aside0.mk hLL
      clear e1 a1 hLL hN1
      go_wp2_with (first | ((with_reducible refine gate_dst (N := 24) rfl ?_); refine wpList_load_mid rfl 86 (.tmp 23) rfl g 1 rfl LL _ HRG.out Tryd.underlying86 (by rfl) HLL.out ?_))
      go_loopw [25] (fun v25 wx => ∃ (k : Nat) (L2 : List Nat), v25 = .int .i64 (k : Int) ∧ Aside0 (k ≤ 32) ∧ Aside0 (RB = runL go L2 (ownF (b + 64 * k) (bs.drop k) ++ r.nums) ∧ L2.length + (ownF (b + 64 * k) (bs.drop k) ++ r.nums).length ≤ N) ∧ Aside0 (I L2 wx ∧ Low base G w1 wx)) (fun v25 _ => Road.leftOf 32 v25)
      case atStart => exact ⟨0, L1, rfl, ⟨by omega⟩, ⟨HE1.out.1, HE1.out.2.2⟩, ⟨H1.out.1, Low.refl _ _ _⟩⟩
      case round =>
        obtain ⟨k, L2, rfl, HK, HRB, HIL⟩ := hrel
        have aw : Tr.at wr (Tr.node g b bs l r h0) := at_low HIL.out.2 (Tr.node g b bs l r h0) HE1.out.2.1 (fun x hx => (List.mem_cons.1 hx).elim (fun e => e ▸ HH.out.2.2.2.2.2) (fun e => (List.mem_append.1 e).elim (HH.out.2.2.2.1 x) (HH.out.2.2.2.2.1 x)))
        rcases Nat.lt_or_ge k 32 with hk | hk
        · have k1' := eq_true (show (k : Int) < 32 by omega)
          have k2' := eq_true hk
          obtain ⟨zk, hzk⟩ : ∃ zk, zk = bs.getD k 0 := ⟨_, rfl⟩
          have hkl : k < bs.length := by rw [aw.1]; exact hk
          have hzk2 : zk = bs[k] := by rw [hzk, List.getD_eq_getElem?_getD, List.getElem?_eq_getElem hkl]; rfl
          have ix : LL[k]? = some (.int .u64 (zk : Int)) := by
            rw [HL2.out, List.getElem?_map, hzk2, List.getElem?_eq_getElem hkl]
            rfl
          have hix := run_index_bits LL k zk wr hk ix
          have cb := nd_base aw.2.1
          have hb64 : b + 4096 ≤ 18446744073709551616 := HH.out.2.1.1
          have u1 : IntKind.u64.wrap (k : Int) = (k : Int) := Road.wu64 _ _ rfl (by omega) (by omega)
          obtain ⟨m, hm⟩ : ∃ m, m = 64 * k := ⟨_, rfl⟩
          have u2 : IntKind.u64.wrap ((k : Int) * 64) = (m : Int) := Road.wu64 _ _ (by omega) (by omega) (by omega)
          obtain ⟨B, hB⟩ : ∃ B, B = b + m := ⟨_, rfl⟩
          have u3 : IntKind.u64.wrap ((b : Int) + (m : Int)) = (B : Int) := Road.wu64 _ _ (by omega) (by omega) (by omega)
          have hdrop : ownF (b + 64 * k) (bs.drop k) = (bitsOf zk).map (B + ·) ++ ownF (B + 64) (bs.drop (k + 1)) := by
            rw [List.drop_eq_getElem_cons hkl, ownF, hB, hm, hzk2]
          have hB64 : B + 64 ≤ 18446744073709549568 := by omega
          have hz64 : zk < 18446744073709551616 := by rw [hzk2]; exact HH.out.2.1.2.1 _ (List.getElem_mem hkl)
          have HZ := Aside0.mk (And.intro hk (And.intro hdrop (And.intro hB64 (And.intro hz64 (And.intro hB hm)))))
          clear hk hzk hzk2 hkl ix hb64 hm hB hdrop hB64 hz64 aw
          go_upto_region 10 with fail
          go_loopw [7] (fun v7 wx => ∃ (y : Nat) (L3 : List Nat), v7 = .int .u64 (y : Int) ∧ Aside0 (y < 18446744073709551616) ∧ Aside0 (RB = runL go L3 ((bitsOf y).map (B + ·) ++ (ownF (B + 64) (bs.drop (k + 1)) ++ r.nums)) ∧ L3.length + ((bitsOf y).map (B + ·) ++ (ownF (B + 64) (bs.drop (k + 1)) ++ r.nums)).length ≤ N) ∧ Aside0 (I L3 wx ∧ Low base G w1 wx)) (fun v7 _ => Road_natOf v7)
          case atStart => exact ⟨zk, L2, rfl, ⟨HZ.out.2.2.2.1⟩, ⟨by rw [HRB.out.1, HZ.out.2.1, List.append_assoc], by have := HRB.out.2; rw [HZ.out.2.1, List.append_assoc] at this; exact this⟩, HIL⟩
          case round =>
            obtain ⟨y, L3, rfl, HY, HRB3, HIL3⟩ := hrel
            by_cases hy0 : y = 0
            · have z1 : ((y : Int) != 0) = false := bne_eq_false_iff_eq.2 (by omega)
              have z2 : decide (y = 0) = true := decide_eq_true hy0
              have z3 := eq_true hy0
              have HY0 := Aside0.mk hy0
              clear hy0
              go_wp2_with fail
              go_roundw
              case rel =>
                have hBk : b + 64 * (k + 1) = B + 64 := by have := HZ.out.2.2.2.2; omega
                refine ⟨k + 1, L3, ?_, ⟨HZ.out.1⟩, ⟨?_, ?_⟩, HIL3⟩
                · rw [Road.w64 ((k : Int) + 1) ((k + 1 : Nat) : Int) (by omega) (by omega) (by have := HZ.out.1; omega)]
                · rw [HRB3.out.1, HY0.out, bitsOf_zero, List.map_nil, List.nil_append, hBk]
                · have := HRB3.out.2
                  rw [HY0.out, bitsOf_zero, List.map_nil, List.nil_append] at this
                  rw [hBk]
                  exact this
              case measure =>
                rw [Road.w64 ((k : Int) + 1) ((k + 1 : Nat) : Int) (by omega) (by omega) (by have := HZ.out.1; omega)]
                exact Road.leftOf_lt HZ.out.1
            · have z1 : ((y : Int) != 0) = true := bne_iff_ne.2 (fun e => hy0 (Int.ofNat.inj e))
              have z2 : decide (y = 0) = false := decide_eq_false hy0
              have z3 := eq_false hy0
              obtain ⟨c, hc⟩ : ∃ c, c = Lib.ctz 64 y := ⟨_, rfl⟩
              have hc64 : c < 64 := by rw [hc]; exact (Lib.lowest_bit 64 y hy0 HY.out).2
              have u4 : IntKind.u64.wrap (c : Int) = (c : Int) := Road.wu64 _ _ rfl (by omega) (by omega)
              obtain ⟨n, hn⟩ : ∃ n, n = B + c := ⟨_, rfl⟩
              have hn64 : n < 18446744073709549568 := by have := HZ.out.2.2.1; omega
              have u5 : IntKind.u64.wrap ((B : Int) + (c : Int)) = (n : Int) := Road.wu64 _ _ (by omega) (by omega) (by omega)
              have hys : (bitsOf y).map (B + ·) = n :: (bitsOf (y &&& (y - 1))).map (B + ·) := by rw [bitsOf_step y hy0 HY.out, hn, hc]; rfl
              obtain ⟨y1, hy1⟩ : ∃ x, x = y - 1 := ⟨_, rfl⟩
              have u6 : IntKind.u64.wrap ((y : Int) - 1) = (y1 : Int) := Road.wu64 _ _ (by omega) (by omega) (by have := HY.out; omega)
              obtain ⟨y2, hy2⟩ : ∃ x, x = y &&& y1 := ⟨_, rfl⟩
              have u7 : bits .and .u64 (y : Int) (y1 : Int) = (y2 : Int) := by rw [hy2]; exact and_u64 y y1 HY.out (by have := HY.out; omega)
              have hy2l : y2 < y := by
                have : y2 ≤ y1 := by rw [hy2]; exact Nat.and_le_right
                omega
              have htz := tz_calls y HY.out hy0 wr (tab_low (HIL3.out.2) HR.out.2.1 HR.out.2.2 (tab_low H1.out.2.1 HR.out.2.1 HR.out.2.2 HH.out.2.2.1))
              rw [← hc] at htz
              rw [hy1] at hy2
              have HC := Aside0.mk (And.intro hn64 (And.intro hys (And.intro hy2 hy2l)))
              clear hy0 hc hc64 hn hn64 hys hy1 hy2 hy2l
              go_wp2_with fail
              refine htz.mono ?_
              clear htz
              rintro e w5 ⟨rfl, rfl⟩
              go_wp2_with fail
              refine (HFF.out L3 n w5 HIL3.out.1 (by have := HRB3.out.2; rw [HC.out.2.1, List.cons_append, List.length_cons] at this; omega) HC.out.1).mono ?_
              rintro e w6 ⟨rfl, i6, l6⟩
              obtain ⟨q2, hq2⟩ : ∃ q2, q2 = go L3 n := ⟨_, rfl⟩
              rw [← hq2]
              have H6 := Aside0.mk (And.intro i6 (And.intro l6 hq2))
              clear i6 l6 hq2
              cases q2 with
              | false =>
                go_wp2_with fail
                go_ret
                have e : RB = (L3 ++ [n], false) := by rw [HRB3.out.1, HC.out.2.1, List.cons_append, runL, if_neg (by rw [← H6.out.2.2]; simp)]
                rw [e]
                exact ⟨rfl, H6.out.1, H1.out.2.1.trans (HIL3.out.2.trans H6.out.2.1)⟩
              | true =>
                go_wp2_with fail
                go_roundw
                case rel =>
                  refine ⟨y2, L3 ++ [n], rfl, ⟨by have := HC.out.2.2.2; have := HY.out; omega⟩, ⟨?_, ?_⟩, ⟨H6.out.1, HIL3.out.2.trans H6.out.2.1⟩⟩
                  · rw [HRB3.out.1, HC.out.2.1, List.cons_append, runL, if_pos H6.out.2.2.symm, HC.out.2.2.1]
                  · have := HRB3.out.2
                    rw [HC.out.2.1, List.cons_append, List.length_cons, ← HC.out.2.2.1] at this
                    rw [List.length_append, List.length_singleton]
                    omega
                case measure =>
                  show (y2 : Int).toNat < (y : Int).toNat
                  have := HC.out.2.2.2
                  omega
        · obtain rfl : k = 32 := by have := HK.out; omega
          have kr : wr.cell? ⟨g, 34, none⟩ = some (.pointer r.pp) := nd_r aw.2.1 aw.1
          have hrb4 : RB = runL go L2 r.nums := by
            rw [HRB.out.1, List.drop_of_length_le (Nat.le_of_eq aw.1)]
            rfl
          have hN4 : L2.length + r.nums.length ≤ N := by
            have := HRB.out.2
            rw [List.drop_of_length_le (Nat.le_of_eq aw.1)] at this
            exact this
          have HN4 := Aside0.mk hN4
          clear hN4
          have HRB4 := Aside0.mk hrb4
          clear hrb4
          have HAR := Aside0.mk aw.2.2.2
          clear hk aw
          go_wp2_with fail
          refine (ihr L2 wr HAR.out HH.out.2.1.2.2.2 HIL.out.1 (tab_low HIL.out.2 HR.out.2.1 HR.out.2.2 (tab_low H1.out.2.1 HR.out.2.1 HR.out.2.2 HH.out.2.2.1)) HH.out.2.2.2.2.1 HN4.out).mono ?_
          rintro e w6 ⟨rfl, i6, l6⟩
          rw [← HRB4.out] at i6 ⊢
          have H6 := Aside0.mk (And.intro i6 l6)
          clear i6 l6
          obtain ⟨q2, hq2⟩ : ∃ q2, q2 = RB.2 := ⟨_, rfl⟩
          rw [← hq2]
          have HQ2 := Aside0.mk hq2
          clear hq2
          cases q2 with
          | false =>
            go_wp2_with fail
            go_ret
            exact ⟨by rw [← HQ2.out]; rfl, H6.out.1, H1.out.2.1.trans (HIL.out.2.trans H6.out.2)⟩
          | true =>
            go_wp2_with fail
            go_ret
            exact ⟨by rw [← HQ2.out]; rfl, H6.out.1, H1.out.2.1.trans (HIL.out.2.trans H6.out.2)⟩
theorem sInfoU : (Tryd.prog.info? 32).map (fun i => (i.zero, i.size, i.bytes)) = some (some (.int .u64 0), 1, 8) := by kernel_rfl
def firstCI (base Bo Bm : Nat) (m : Int) (L : List Nat) (w : World) : Prop := base ≤ w.heap.size ∧ w.heap[Bm]? = some (.cells #[.int .i64 m] 3 (0, 0)) ∧ ∃ v, w.heap[Bo]? = some (.cells #[v] 25 (0, 0)) ∧ Kd.R (Kd.int .u64) 32 w base (fun k => base ≤ k) v (L.map (fun n : Nat => (n : Int)))
set_option maxHeartbeats 16000000 in
set_option maxRecDepth 100000 in
theorem firstC_calls (base Bo Bm : Nat) (m : Int) (L : List Nat) (n : Nat) (w : World) (hI : firstCI base Bo Bm m L w) (hL : L.length < 4000000000) (hBo : Bo < base ∧ Bm < base ∧ Bo ≠ Bm) :
    Calls Tryd.prog 32 #[.int .u64 (n : Int), .pointer (some ⟨Bo, 0, none⟩), .pointer (some ⟨Bm, 0, none⟩)] w fun e w' => e = .returned (.bool (decide (((L.length + 1 : Nat) : Int) < m))) ∧ firstCI base Bo Bm m (L ++ [n]) w' ∧ Low base [Bo] w w' := by
  obtain ⟨hb, hm, v, hv, hR⟩ := hI
  have k1 : w.cell? ⟨Bo, 0, none⟩ = some v := cell_of_row w Bo 0 _ _ _ hv
  have k2 : w.cell? ⟨Bm, 0, none⟩ = some (.int .i64 m) := cell_of_row w Bm 0 _ _ _ hm
  have HR := Aside0.mk (And.intro hR (And.intro hv hb))
  have HB := Aside0.mk (And.intro hBo hL)
  have HM := Aside0.mk hm
  clear hm
  clear hR hv hb hBo hL
  go_enter Tryd.func32, Tryd.ntmps32
  go_wp2_with (first | ((with_reducible refine gate_builtin (b := .append) (xs := #[.tmp 5, .tmp 7]) rfl ?_); at_builtin; refine Kd.R_append (Kd.int .u64) (w0 := w) base rfl (.tmp 5) (.tmp 7) 25 32 (.int .u64 0) 8 rfl Tryd.underlying25 sInfoU rfl (by decide) (by decide) v (L.map (fun n : Nat => (n : Int))) (n : Int) [.int .u64 (n : Int)] (fun k => base ≤ k) (fun _ => False) rfl rfl (by exact rfl) (fun _ hk => hk.elim) (fun k hk => Nat.le_trans HR.out.2.2 hk) HR.out.1 (Below.refl _ _) HR.out.2.2 (by rw [List.length_map]; have := HB.out.2; omega) ?_; intro v1 w1 ho hb1 hg hat; obtain ⟨A1, c1, hv1⟩ := Kd.R_slice ho; rw [List.length_append, List.length_map, List.length_singleton] at hv1; subst hv1; have kk1 : w1.cell? ⟨Bo, 0, none⟩ = some v := (cell_of_heap (hb1.block Bo HB.out.1.1) 0).trans k1; have kk2 : (w1.setCell ⟨Bo, 0, none⟩ (.slice A1 (L.length + 1) c1)).cell? ⟨Bm, 0, none⟩ = some (.int .i64 m) := (World.cell?_setCell_other _ _ _ _ (fun e => HB.out.1.2.2 (congrArg Addr.block e))).trans ((cell_of_heap (hb1.block Bm HB.out.1.2.1) 0).trans k2); have ff1 : w1.frozen? ⟨Bo, 0, none⟩ = false := (by simp [World.frozen?, (hb1.block Bo HB.out.1.1).trans HR.out.2.1]); have H1 := Aside0.mk (And.intro ho hb1); clear ho hb1 hg hat))
  go_ret
  obtain ⟨ho, hb1⟩ := H1.out
  have q1 : w1.heap[Bo]? = some (.cells #[v] 25 (0, 0)) := (hb1.block Bo HB.out.1.1).trans HR.out.2.1
  have E := setCell_eq_setRow w1 Bo 0 _ 25 (0, 0) (.slice A1 (L.length + 1) c1) q1
  refine ⟨by simp, ?_, ?_⟩
  · rw [E]
    refine ⟨?_, ?_, _, setRow_heap _ _ _ _ _ _ q1, ?_⟩
    · rw [setRow_size]; exact Nat.le_trans HR.out.2.2 hb1.size
    · rw [setRow_other _ _ _ _ (fun e => HB.out.1.2.2 e.symm)]; exact (hb1.block Bm HB.out.1.2.1).trans HM.out
    · rw [List.map_append]
      exact Kd.R_step ho (fun k hk _ => setRow_other _ _ _ _ (by have := HB.out.1.1; omega))
  · rw [E]
    exact ⟨hb1.os, hb1.tape, hb1.output, by rw [setRow_size]; exact hb1.size, fun k hk hn => (setRow_other _ _ _ _ (by simpa using hn)).trans (hb1.block k hk)⟩
def allCI (base Bo : Nat) (L : List Nat) (w : World) : Prop := base ≤ w.heap.size ∧ ∃ v, w.heap[Bo]? = some (.cells #[v] 25 (0, 0)) ∧ Kd.R (Kd.int .u64) 32 w base (fun k => base ≤ k) v (L.map (fun n : Nat => (n : Int)))
set_option maxHeartbeats 16000000 in
set_option maxRecDepth 100000 in
theorem allC_calls (base Bo : Nat) (L : List Nat) (n : Nat) (w : World) (hI : allCI base Bo  L w) (hL : L.length < 4000000000) (hBo : Bo < base) :
    Calls Tryd.prog 53 #[.int .u64 (n : Int), .pointer (some ⟨Bo, 0, none⟩)] w fun e w' => e = .returned (.bool (true)) ∧ allCI base Bo  (L ++ [n]) w' ∧ Low base [Bo] w w' := by
  obtain ⟨hb, v, hv, hR⟩ := hI
  have k1 : w.cell? ⟨Bo, 0, none⟩ = some v := cell_of_row w Bo 0 _ _ _ hv
  have HR := Aside0.mk (And.intro hR (And.intro hv hb))
  have HB := Aside0.mk (And.intro hBo hL)
  clear hR hv hb hBo hL
  go_enter Tryd.func53, Tryd.ntmps53
  go_wp2_with (first | ((with_reducible refine gate_builtin (b := .append) (xs := #[.tmp 4, .tmp 6]) rfl ?_); at_builtin; refine Kd.R_append (Kd.int .u64) (w0 := w) base rfl (.tmp 4) (.tmp 6) 25 32 (.int .u64 0) 8 rfl Tryd.underlying25 sInfoU rfl (by decide) (by decide) v (L.map (fun n : Nat => (n : Int))) (n : Int) [.int .u64 (n : Int)] (fun k => base ≤ k) (fun _ => False) rfl rfl (by exact rfl) (fun _ hk => hk.elim) (fun k hk => Nat.le_trans HR.out.2.2 hk) HR.out.1 (Below.refl _ _) HR.out.2.2 (by rw [List.length_map]; have := HB.out.2; omega) ?_; intro v1 w1 ho hb1 hg hat; obtain ⟨A1, c1, hv1⟩ := Kd.R_slice ho; rw [List.length_append, List.length_map, List.length_singleton] at hv1; subst hv1; have kk1 : w1.cell? ⟨Bo, 0, none⟩ = some v := (cell_of_heap (hb1.block Bo HB.out.1) 0).trans k1; have ff1 : w1.frozen? ⟨Bo, 0, none⟩ = false := (by simp [World.frozen?, (hb1.block Bo HB.out.1).trans HR.out.2.1]); have H1 := Aside0.mk (And.intro ho hb1); clear ho hb1 hg hat))
  go_ret
  obtain ⟨ho, hb1⟩ := H1.out
  have q1 : w1.heap[Bo]? = some (.cells #[v] 25 (0, 0)) := (hb1.block Bo HB.out.1).trans HR.out.2.1
  have E := setCell_eq_setRow w1 Bo 0 _ 25 (0, 0) (.slice A1 (L.length + 1) c1) q1
  refine ⟨rfl, ?_, ?_⟩
  · rw [E]
    refine ⟨?_, _, setRow_heap _ _ _ _ _ _ q1, ?_⟩
    · rw [setRow_size]; exact Nat.le_trans HR.out.2.2 hb1.size
    · rw [List.map_append]
      exact Kd.R_step ho (fun k hk _ => setRow_other _ _ _ _ (by have := HB.out.1; omega))
  · rw [E]
    exact ⟨hb1.os, hb1.tape, hb1.output, by rw [setRow_size]; exact hb1.size, fun k hk hn => (setRow_other _ _ _ _ (by simpa using hn)).trans (hb1.block k hk)⟩
/-! ### sets as ascending lists, and the trees that stand for them (plain) -/
def insL (s : Nat) : List Nat → List Nat
  | [] => [s]
  | x :: xs => if x < s then x :: insL s xs else if x = s then x :: xs else s :: x :: xs
def delL (s : Nat) : List Nat → List Nat
  | [] => []
  | x :: xs => if x < s then x :: delL s xs else if x = s then xs else x :: xs
theorem insL_right (s : Nat) : ∀ (A B : List Nat), (∀ x ∈ A, x < s) → insL s (A ++ B) = A ++ insL s B
  | [], B, _ => rfl
  | a :: A, B, h => by
    rw [List.cons_append, insL, if_pos (h a List.mem_cons_self), insL_right s A B (fun x hx => h x (List.mem_cons_of_mem _ hx))]
    rfl
theorem insL_left (s : Nat) : ∀ (A B : List Nat), (∀ x ∈ B, s < x) → insL s (A ++ B) = insL s A ++ B
  | [], [], _ => rfl
  | [], b :: B, h => by
    have := h b List.mem_cons_self
    show insL s (b :: B) = s :: b :: B
    rw [insL, if_neg (by omega), if_neg (by omega)]
  | a :: A, B, h => by
    rw [List.cons_append, insL, insL, insL_left s A B h]
    split
    · rfl
    · split <;> rfl
theorem delL_right (s : Nat) : ∀ (A B : List Nat), (∀ x ∈ A, x < s) → delL s (A ++ B) = A ++ delL s B
  | [], B, _ => rfl
  | a :: A, B, h => by
    rw [List.cons_append, delL, if_pos (h a List.mem_cons_self), delL_right s A B (fun x hx => h x (List.mem_cons_of_mem _ hx))]
    rfl
theorem delL_left (s : Nat) : ∀ (A B : List Nat), (∀ x ∈ B, s < x) → delL s (A ++ B) = delL s A ++ B
  | [], [], _ => rfl
  | [], b :: B, h => by
    have := h b List.mem_cons_self
    show delL s (b :: B) = b :: B
    rw [delL, if_neg (by omega), if_neg (by omega)]
  | a :: A, B, h => by
    rw [List.cons_append, delL, delL, delL_left s A B h]
    split
    · rfl
    · split <;> rfl
theorem mem_insL (s : Nat) : ∀ (L : List Nat) (x : Nat), x ∈ insL s L ↔ x = s ∨ x ∈ L
  | [], x => by simp [insL]
  | a :: L, x => by
    rw [insL]
    split
    · rw [List.mem_cons, mem_insL s L x, List.mem_cons]
      constructor
      · rintro (h | h | h)
        · exact .inr (.inl h)
        · exact .inl h
        · exact .inr (.inr h)
      · rintro (h | h | h)
        · exact .inr (.inl h)
        · exact .inl h
        · exact .inr (.inr h)
    · split
      · rename_i h
        subst h
        rw [List.mem_cons]
        constructor
        · exact fun h => .inr h
        · rintro (h | h)
          · exact .inl h
          · exact h
      · rw [List.mem_cons]
theorem mem_delL (s : Nat) : ∀ (L : List Nat) (x : Nat), x ∈ delL s L → x ∈ L
  | [], x, h => h
  | a :: L, x, h => by
    rw [delL] at h
    split at h
    · rcases List.mem_cons.1 h with rfl | h
      · exact List.mem_cons_self
      · exact List.mem_cons_of_mem _ (mem_delL s L x h)
    · split at h
      · exact List.mem_cons_of_mem _ h
      · exact h
theorem len_insL (s : Nat) : ∀ (L : List Nat), (L.Pairwise (· < ·)) → (insL s L).length = L.length + if s ∈ L then 0 else 1
  | [], _ => by simp [insL]
  | a :: L, h => by
    have ih := len_insL s L (List.pairwise_cons.1 h).2
    rw [insL]
    by_cases c1 : a < s
    · have h1 : ¬ s = a := by omega
      rw [if_pos c1, List.length_cons, ih, List.length_cons]
      by_cases c2 : s ∈ L
      · rw [if_pos c2, if_pos (List.mem_cons_of_mem _ c2)]
      · rw [if_neg c2, if_neg (by simp [h1, c2])]
    · rw [if_neg c1]
      by_cases c2 : a = s
      · subst c2; rw [if_pos rfl, if_pos List.mem_cons_self]; rfl
      · rw [if_neg c2, if_neg]
        · rfl
        · intro hm
          rcases List.mem_cons.1 hm with e | e
          · exact c2 e.symm
          · have := (List.pairwise_cons.1 h).1 s e; omega
theorem len_delL (s : Nat) : ∀ (L : List Nat), (L.Pairwise (· < ·)) → (delL s L).length + (if s ∈ L then 1 else 0) = L.length
  | [], _ => by simp [delL]
  | a :: L, h => by
    have ih := len_delL s L (List.pairwise_cons.1 h).2
    rw [delL]
    by_cases c1 : a < s
    · have h1 : ¬ s = a := by omega
      rw [if_pos c1, List.length_cons, List.length_cons, ← ih]
      by_cases c2 : s ∈ L
      · rw [if_pos c2, if_pos (List.mem_cons_of_mem _ c2)]
      · rw [if_neg c2, if_neg (by simp [h1, c2])]
    · rw [if_neg c1]
      by_cases c2 : a = s
      · subst c2; rw [if_pos rfl, if_pos List.mem_cons_self]; rfl
      · rw [if_neg c2, if_neg]
        · rfl
        · intro hm
          rcases List.mem_cons.1 hm with e | e
          · exact c2 e.symm
          · have := (List.pairwise_cons.1 h).1 s e; omega
/-! one word's bits -/
theorem filter_ins (r : Nat) (p : Nat → Bool) : ∀ (R : List Nat), R.Pairwise (· < ·) → r ∈ R → R.filter (fun j => p j || j == r) = insL r (R.filter p)
  | [], _, h => absurd h (by simp)
  | a :: R, hp, h => by
    have hp' := List.pairwise_cons.1 hp
    by_cases e : a = r
    · subst e
      have hR : R.filter (fun j => p j || j == a) = R.filter p := by
        apply List.filter_congr
        intro j hj
        have := hp'.1 j hj
        have : (j == a) = false := by simp; omega
        rw [this, Bool.or_false]
      have hlt : ∀ x ∈ R.filter p, a < x := fun x hx => hp'.1 x ((List.mem_filter.1 hx).1)
      rw [List.filter_cons, if_pos (by simp), hR, List.filter_cons]
      by_cases c : p a = true
      · rw [if_pos c, insL, if_neg (by omega), if_pos rfl]
      · rw [if_neg c]
        have := insL_left a [] (R.filter p) hlt
        rw [List.nil_append] at this
        rw [this]
        rfl
    · have hr : r ∈ R := (List.mem_cons.1 h).resolve_left (fun e2 => e e2.symm)
      have ih := filter_ins r p R hp'.2 hr
      have hb : (a == r) = false := by simp [e]
      have hlt := hp'.1 r hr
      rw [List.filter_cons, List.filter_cons, hb, Bool.or_false, ih]
      by_cases c : p a = true
      · rw [if_pos c, if_pos c, insL, if_pos hlt]
      · rw [if_neg c, if_neg c]
theorem filter_del (r : Nat) (p : Nat → Bool) : ∀ (R : List Nat), R.Pairwise (· < ·) → R.filter (fun j => p j && j != r) = delL r (R.filter p)
  | [], _ => rfl
  | a :: R, hp => by
    have hp' := List.pairwise_cons.1 hp
    have ih := filter_del r p R hp'.2
    by_cases e : a = r
    · subst e
      have hlt : ∀ x ∈ R.filter p, a < x := fun x hx => hp'.1 x ((List.mem_filter.1 hx).1)
      have hd := delL_left a [] (R.filter p) hlt
      rw [List.nil_append, show delL a [] = [] from rfl, List.nil_append] at hd
      rw [List.filter_cons, if_neg (by simp), ih, List.filter_cons]
      by_cases c : p a = true
      · rw [if_pos c, delL, if_neg (by omega), if_pos rfl, hd]
      · rw [if_neg c]
    · have hb : (a != r) = true := by simp [e]
      rw [List.filter_cons, List.filter_cons, hb, Bool.and_true, ih]
      by_cases c : p a = true
      · rw [if_pos c, if_pos c, delL]
        by_cases h : a < r
        · rw [if_pos h]
        · rw [if_neg h, if_neg e]
          have hlt : ∀ x ∈ R.filter p, r < x := fun x hx => by have := hp'.1 x ((List.mem_filter.1 hx).1); omega
          have hd := delL_left r [] (R.filter p) hlt
          rw [List.nil_append, show delL r [] = [] from rfl, List.nil_append] at hd
          rw [hd]
      · rw [if_neg c, if_neg c]
theorem range_sorted (n : Nat) : (List.range n).Pairwise (· < ·) := List.pairwise_lt_range
theorem bitsOf_sorted (z : Nat) : (bitsOf z).Pairwise (· < ·) := (range_sorted 64).filter _
theorem bitsOf_put (z r : Nat) (hr : r < 64) : bitsOf (z ||| 2 ^ r) = insL r (bitsOf z) := by
  unfold bitsOf
  rw [← filter_ins r (fun j => z.testBit j) (List.range 64) (range_sorted 64) (List.mem_range.2 hr)]
  apply List.filter_congr
  intro j _
  rw [Nat.testBit_or, Nat.testBit_two_pow]
  by_cases h : r = j
  · subst h; simp
  · have : (j == r) = false := by simp; omega
    simp [h, this]
theorem bitsOf_clr (z r : Nat) (ht : z.testBit r = true) : bitsOf (z ^^^ 2 ^ r) = delL r (bitsOf z) := by
  unfold bitsOf
  rw [← filter_del r (fun j => z.testBit j) (List.range 64) (range_sorted 64)]
  apply List.filter_congr
  intro j _
  rw [Nat.testBit_xor, Nat.testBit_two_pow]
  by_cases h : r = j
  · subst h; simp [ht]
  · have : (j != r) = true := by simp; omega
    simp [h, this]
theorem mem_bits (z j : Nat) : j ∈ bitsOf z ↔ j < 64 ∧ z.testBit j = true := by
  unfold bitsOf
  rw [List.mem_filter, List.mem_range]
theorem insL_map (b s : Nat) : ∀ L : List Nat, insL (b + s) (L.map (b + ·)) = (insL s L).map (b + ·)
  | [] => rfl
  | x :: L => by
    rw [List.map_cons, insL, insL, insL_map b s L]
    by_cases h : x < s
    · rw [if_pos (by omega), if_pos h]; rfl
    · rw [if_neg (by omega), if_neg h]
      by_cases e : x = s
      · rw [if_pos (by omega), if_pos e]; rfl
      · rw [if_neg (by omega), if_neg e]; rfl
theorem delL_map (b s : Nat) : ∀ L : List Nat, delL (b + s) (L.map (b + ·)) = (delL s L).map (b + ·)
  | [] => rfl
  | x :: L => by
    rw [List.map_cons, delL, delL, delL_map b s L]
    by_cases h : x < s
    · rw [if_pos (by omega), if_pos h]; rfl
    · rw [if_neg (by omega), if_neg h]
      by_cases e : x = s
      · rw [if_pos (by omega), if_pos e]
      · rw [if_neg (by omega), if_neg e]; rfl
/-! one node's bits -/
theorem mem_ownF : ∀ (bs : List Nat) (b x : Nat), x ∈ ownF b bs → b ≤ x ∧ x < b + 64 * bs.length
  | [], b, x, h => absurd h (by simp [ownF])
  | z :: bs, b, x, h => by
    rw [ownF, List.mem_append] at h
    rw [List.length_cons]
    rcases h with h | h
    · obtain ⟨j, hj, rfl⟩ := List.mem_map.1 h
      have := (mem_bits z j).1 hj
      omega
    · have := mem_ownF bs (b + 64) x h
      omega
theorem ownF_put : ∀ (bs : List Nat) (b d : Nat), d < 64 * bs.length → ownF b (putB bs d) = insL (b + d) (ownF b bs)
  | [], b, d, h => absurd h (by simp)
  | z :: bs, b, d, h => by
    rw [List.length_cons] at h
    by_cases c : d < 64
    · have e1 : d / 64 = 0 := by omega
      have e2 : d % 64 = d := by omega
      rw [putB, e1, e2, List.set_cons_zero, ownF, ownF, show (z :: bs).getD 0 0 = z from rfl, bitsOf_put z d c]
      rw [insL_left, insL_map]
      intro x hx
      have := mem_ownF bs (b + 64) x hx
      omega
    · have ih := ownF_put bs (b + 64) (d - 64) (by omega)
      have e1 : d / 64 = (d - 64) / 64 + 1 := by omega
      have e2 : d % 64 = (d - 64) % 64 := by omega
      have e3 : putB (z :: bs) d = z :: putB bs (d - 64) := by
        rw [putB, putB, e1, e2, List.set_cons_succ]
        rfl
      rw [e3, ownF, ownF, ih, show b + 64 + (d - 64) = b + d by omega, insL_right]
      intro x hx
      obtain ⟨j, hj, rfl⟩ := List.mem_map.1 hx
      have := (mem_bits z j).1 hj
      omega
theorem ownF_clr : ∀ (bs : List Nat) (b d : Nat), hasB bs d = true → ownF b (clrB bs d) = delL (b + d) (ownF b bs)
  | [], b, d, h => by simp [hasB] at h
  | z :: bs, b, d, h => by
    by_cases c : d < 64
    · have e1 : d / 64 = 0 := by omega
      have e2 : d % 64 = d := by omega
      rw [hasB, e1, e2, show (z :: bs).getD 0 0 = z from rfl] at h
      rw [clrB, e1, e2, List.set_cons_zero, ownF, ownF, show (z :: bs).getD 0 0 = z from rfl, bitsOf_clr z d h]
      rw [delL_left, delL_map]
      intro x hx
      have := mem_ownF bs (b + 64) x hx
      omega
    · have e1 : d / 64 = (d - 64) / 64 + 1 := by omega
      have e2 : d % 64 = (d - 64) % 64 := by omega
      have h' : hasB bs (d - 64) = true := by
        rw [hasB, e1, e2] at h
        exact h
      have ih := ownF_clr bs (b + 64) (d - 64) h'
      have e3 : clrB (z :: bs) d = z :: clrB bs (d - 64) := by
        rw [clrB, clrB, e1, e2, List.set_cons_succ]
        rfl
      rw [e3, ownF, ownF, ih, show b + 64 + (d - 64) = b + d by omega, delL_right]
      intro x hx
      obtain ⟨j, hj, rfl⟩ := List.mem_map.1 hx
      have := (mem_bits z j).1 hj
      omega
theorem mem_own : ∀ (bs : List Nat) (b d : Nat), (b + d ∈ ownF b bs) ↔ hasB bs d = true
  | [], b, d => by simp [ownF, hasB]
  | z :: bs, b, d => by
    rw [ownF, List.mem_append]
    by_cases c : d < 64
    · have e1 : d / 64 = 0 := by omega
      have e2 : d % 64 = d := by omega
      rw [hasB, e1, e2, show (z :: bs).getD 0 0 = z from rfl]
      constructor
      · rintro (h | h)
        · obtain ⟨j, hj, e⟩ := List.mem_map.1 h
          have : j = d := by omega
          rw [← this]; exact ((mem_bits z j).1 hj).2
        · have := mem_ownF bs (b + 64) _ h; omega
      · exact fun h => .inl (List.mem_map.2 ⟨d, (mem_bits z d).2 ⟨c, h⟩, rfl⟩)
    · have e1 : d / 64 = (d - 64) / 64 + 1 := by omega
      have e2 : d % 64 = (d - 64) % 64 := by omega
      have ih := mem_own bs (b + 64) (d - 64)
      rw [show b + 64 + (d - 64) = b + d by omega] at ih
      rw [hasB, e1, e2, show (z :: bs).getD ((d - 64) / 64 + 1) 0 = bs.getD ((d - 64) / 64) 0 from rfl]
      rw [show (bs.getD ((d - 64) / 64) 0).testBit ((d - 64) % 64) = hasB bs (d - 64) from rfl, ← ih]
      constructor
      · rintro (h | h)
        · obtain ⟨j, hj, e⟩ := List.mem_map.1 h
          have := (mem_bits z j).1 hj
          omega
        · exact h
      · exact fun h => .inr h
theorem ownF_zero : ∀ (bs : List Nat) (b : Nat), zeroB bs = true → ownF b bs = []
  | [], _, _ => rfl
  | z :: bs, b, h => by
    have h' : ((z == 0) && bs.all (fun z => z == 0)) = true := by rw [zeroB, List.all_cons] at h; exact h
    obtain ⟨h1, h2⟩ := Bool.and_eq_true_iff.1 h'
    rw [ownF, beq_iff_eq.1 h1, bitsOf_zero, ownF_zero bs (b + 64) h2]
    rfl
theorem bitsOf_ne {z : Nat} (h0 : z ≠ 0) (hz : z < 18446744073709551616) : bitsOf z ≠ [] := by
  rw [bitsOf_step z h0 hz]; simp
theorem ownF_ne : ∀ (bs : List Nat) (b : Nat), (∀ z ∈ bs, z < 18446744073709551616) → zeroB bs = false → ownF b bs ≠ []
  | [], _, _, h => by simp [zeroB] at h
  | z :: bs, b, hz, h => by
    rw [ownF]
    intro e
    obtain ⟨e1, e2⟩ := List.append_eq_nil_iff.1 e
    by_cases h0 : z = 0
    · have : zeroB bs = false := by
        rw [h0] at h
        exact h
      exact ownF_ne bs (b + 64) (fun x hx => hz x (List.mem_cons_of_mem _ hx)) this e2
    · exact bitsOf_ne h0 (hz z List.mem_cons_self) (List.map_eq_nil_iff.1 e1)
theorem ownF_sorted : ∀ (bs : List Nat) (b : Nat), (ownF b bs).Pairwise (· < ·)
  | [], _ => List.Pairwise.nil
  | z :: bs, b => by
    rw [ownF, List.pairwise_append]
    refine ⟨?_, ownF_sorted bs (b + 64), ?_⟩
    · rw [List.pairwise_map]
      exact (bitsOf_sorted z).imp (fun h => by omega)
    · intro x hx y hy
      obtain ⟨j, hj, rfl⟩ := List.mem_map.1 hx
      have h1 := (mem_bits z j).1 hj
      have h2 := mem_ownF bs (b + 64) y hy
      omega
/-! ### the trees that stand for sets -/
def Tr.ok (lo hi : Nat) : Tr → Prop
  | .nil => True
  | .node _ b bs l r _ => 2048 ∣ b ∧ lo ≤ b ∧ b + 2048 ≤ hi ∧ bs.length = 32 ∧ (∀ z ∈ bs, z < 18446744073709551616) ∧ zeroB bs = false ∧ l.ok lo b ∧ r.ok (b + 2048) hi
theorem Tr.ok_mono {lo hi lo' hi' : Nat} (h1 : lo' ≤ lo) (h2 : hi ≤ hi') : ∀ t : Tr, t.ok lo hi → t.ok lo' hi'
  | .nil, _ => trivial
  | .node _ b bs l r _, ⟨a1, a2, a3, a4, a5, a6, a7, a8⟩ => ⟨a1, by omega, by omega, a4, a5, a6, Tr.ok_mono h1 (Nat.le_refl _) l a7, Tr.ok_mono (Nat.le_refl _) h2 r a8⟩
theorem mem_nums {lo hi : Nat} : ∀ t : Tr, t.ok lo hi → ∀ x ∈ t.nums, lo ≤ x ∧ x < hi
  | .nil, _, x, hx => absurd hx (by simp [Tr.nums])
  | .node _ b bs l r _, ⟨a1, a2, a3, a4, a5, a6, a7, a8⟩, x, hx => by
    rw [Tr.nums, List.mem_append, List.mem_append] at hx
    rcases hx with h | h | h
    · have := mem_nums l a7 x h; omega
    · have := mem_ownF bs b x h; omega
    · have := mem_nums r a8 x h; omega
theorem nums_sorted {lo hi : Nat} : ∀ t : Tr, t.ok lo hi → t.nums.Pairwise (· < ·)
  | .nil, _ => List.Pairwise.nil
  | .node _ b bs l r _, ⟨a1, a2, a3, a4, a5, a6, a7, a8⟩ => by
    rw [Tr.nums, List.pairwise_append, List.pairwise_append]
    refine ⟨nums_sorted l a7, ⟨ownF_sorted bs b, nums_sorted r a8, fun x hx y hy => ?_⟩, fun x hx y hy => ?_⟩
    · have := mem_ownF bs b x hx
      have := mem_nums r a8 y hy
      omega
    · have := mem_nums l a7 x hx
      rw [List.mem_append] at hy
      rcases hy with h | h
      · have := mem_ownF bs b y h; omega
      · have := mem_nums r a8 y h; omega
theorem sz_nums {lo hi : Nat} : ∀ t : Tr, t.ok lo hi → t.sz ≤ t.nums.length
  | .nil, _ => Nat.le_refl _
  | .node _ b bs l r _, ⟨a1, a2, a3, a4, a5, a6, a7, a8⟩ => by
    have h1 := sz_nums l a7
    have h2 := sz_nums r a8
    have h3 : 0 < (ownF b bs).length := List.length_pos_iff.2 (ownF_ne bs b a5 a6)
    rw [Tr.nums, List.length_append, List.length_append, Tr.sz]
    omega
theorem fit_of_ok : ∀ (t : Tr) (lo hi : Nat), hi ≤ 18446744073709549568 → t.ok lo hi → t.fit
  | .nil, _, _, _, _ => trivial
  | .node _ b bs l r _, lo, hi, h, ⟨a1, a2, a3, a4, a5, a6, a7, a8⟩ => ⟨by omega, a5, fit_of_ok l lo b (by omega) a7, fit_of_ok r (b + 2048) hi h a8⟩
/-! turns -/
theorem rotLt_nums : ∀ t : Tr, (rotLt t).nums = t.nums
  | .nil => rfl
  | .node _ _ _ _ .nil _ => rfl
  | .node g b bs o (.node g2 b2 bs2 i p k2) h => by simp only [rotLt, rotLT, Tr.nums, List.append_assoc]
theorem rotRt_nums : ∀ t : Tr, (rotRt t).nums = t.nums
  | .nil => rfl
  | .node _ _ _ .nil _ _ => rfl
  | .node g b bs (.node g2 b2 bs2 p i k2) o h => by simp only [rotRt, rotRT, Tr.nums, List.append_assoc]
theorem rotLt_ok {lo hi : Nat} : ∀ t : Tr, t.ok lo hi → (rotLt t).ok lo hi
  | .nil, h => h
  | .node _ _ _ _ .nil _, h => h
  | .node g b bs o (.node g2 b2 bs2 i p k2) h, ⟨a1, a2, a3, a4, a5, a6, a7, c1, c2, c3, c4, c5, c6, c7, c8⟩ => ⟨c1, by omega, c3, c4, c5, c6, ⟨a1, a2, by omega, a4, a5, a6, a7, c7⟩, c8⟩
theorem rotRt_ok {lo hi : Nat} : ∀ t : Tr, t.ok lo hi → (rotRt t).ok lo hi
  | .nil, h => h
  | .node _ _ _ .nil _ _, h => h
  | .node g b bs (.node g2 b2 bs2 p i k2) o h, ⟨a1, a2, a3, a4, a5, a6, ⟨c1, c2, c3, c4, c5, c6, c7, c8⟩, a8⟩ => ⟨c1, c2, by omega, c4, c5, c6, c7, ⟨a1, by omega, a3, a4, a5, a6, c8, a8⟩⟩
theorem balT_nums (g b : Nat) (bs : List Nat) (l r : Tr) : (balT g b bs l r).nums = l.nums ++ (ownF b bs ++ r.nums) := by
  unfold balT
  simp only
  split
  · rw [rotRt_nums]
    split
    · rw [Tr.nums, rotLt_nums]
    · rfl
  · split
    · rw [rotLt_nums]
      split
      · rw [Tr.nums, rotRt_nums]
      · rfl
    · rfl
theorem balT_ok {lo hi : Nat} (g b : Nat) (bs : List Nat) (l r : Tr) (h0 : Int) (h : (Tr.node g b bs l r h0).ok lo hi) : (balT g b bs l r).ok lo hi := by
  obtain ⟨a1, a2, a3, a4, a5, a6, a7, a8⟩ := h
  unfold balT
  simp only
  split
  · refine rotRt_ok _ ?_
    split
    · exact ⟨a1, a2, a3, a4, a5, a6, rotLt_ok l a7, a8⟩
    · exact ⟨a1, a2, a3, a4, a5, a6, a7, a8⟩
  · split
    · refine rotLt_ok _ ?_
      split
      · exact ⟨a1, a2, a3, a4, a5, a6, a7, rotRt_ok r a8⟩
      · exact ⟨a1, a2, a3, a4, a5, a6, a7, a8⟩
    · exact ⟨a1, a2, a3, a4, a5, a6, a7, a8⟩
/-! one node changed -/
theorem put_len (bs : List Nat) (d : Nat) : (putB bs d).length = bs.length := by rw [putB, List.length_set]
theorem clr_len (bs : List Nat) (d : Nat) : (clrB bs d).length = bs.length := by rw [clrB, List.length_set]
theorem put_small {bs : List Nat} {d : Nat} (h : ∀ z ∈ bs, z < 18446744073709551616) (hd : d < 64 * bs.length) : ∀ z ∈ putB bs d, z < 18446744073709551616 := by
  intro z hz
  rcases List.mem_or_eq_of_mem_set hz with h1 | rfl
  · exact h z h1
  · have h2 : bs.getD (d / 64) 0 < 2 ^ 64 := by
      rw [List.getD_eq_getElem?_getD, List.getElem?_eq_getElem (by omega)]
      exact h _ (List.getElem_mem _)
    exact Nat.or_lt_two_pow h2 (Nat.pow_lt_pow_right (by decide) (by omega))
theorem clr_small {bs : List Nat} {d : Nat} (h : ∀ z ∈ bs, z < 18446744073709551616) (hd : d < 64 * bs.length) : ∀ z ∈ clrB bs d, z < 18446744073709551616 := by
  intro z hz
  rcases List.mem_or_eq_of_mem_set hz with h1 | rfl
  · exact h z h1
  · have h2 : bs.getD (d / 64) 0 < 2 ^ 64 := by
      rw [List.getD_eq_getElem?_getD, List.getElem?_eq_getElem (by omega)]
      exact h _ (List.getElem_mem _)
    exact Nat.xor_lt_two_pow h2 (Nat.pow_lt_pow_right (by decide) (by omega))
theorem put_ne {bs : List Nat} {d : Nat} (hd : d < 64 * bs.length) : zeroB (putB bs d) = false := by
  refine zeroB_no (i := d / 64) (by rw [put_len]; omega) ?_
  rw [putB, List.getD_eq_getElem?_getD, List.getElem?_set_self (by omega)]
  show bs.getD (d / 64) 0 ||| 2 ^ (d % 64) ≠ 0
  intro e
  have := congrArg (fun x => x.testBit (d % 64)) e
  simp [Nat.testBit_or, Nat.testBit_two_pow] at this
/-- What a put makes of a node's bits. -/
def setB (bs : List Nat) (d : Nat) : List Nat := if hasB bs d = true then bs else putB bs d
theorem insL_in (s : Nat) : ∀ L : List Nat, L.Pairwise (· < ·) → s ∈ L → insL s L = L
  | [], _, h => absurd h (by simp)
  | x :: L, hp, h => by
    have hp' := List.pairwise_cons.1 hp
    rw [insL]
    by_cases c : x = s
    · subst c; rw [if_neg (by omega), if_pos rfl]
    · have hm : s ∈ L := (List.mem_cons.1 h).resolve_left (fun e => c e.symm)
      rw [if_pos (hp'.1 s hm), insL_in s L hp'.2 hm]
theorem delL_out (s : Nat) : ∀ L : List Nat, s ∉ L → L.Pairwise (· < ·) → delL s L = L
  | [], _, _ => rfl
  | x :: L, h, hp => by
    have hp' := List.pairwise_cons.1 hp
    rw [delL]
    split
    · rw [delL_out s L (fun e => h (List.mem_cons_of_mem _ e)) hp'.2]
    · rw [if_neg (fun e => h (by rw [e]; exact List.mem_cons_self))]
theorem setB_own (bs : List Nat) (b d : Nat) (hd : d < 64 * bs.length) : ownF b (setB bs d) = insL (b + d) (ownF b bs) := by
  unfold setB
  split
  · rename_i h
    exact (insL_in _ _ (ownF_sorted bs b) ((mem_own bs b d).2 h)).symm
  · exact ownF_put bs b d hd
theorem setB_good {bs : List Nat} {d : Nat} (hl : bs.length = 32) (h : ∀ z ∈ bs, z < 18446744073709551616) (hz : zeroB bs = false) (hd : d < 2048) : (setB bs d).length = 32 ∧ (∀ z ∈ setB bs d, z < 18446744073709551616) ∧ zeroB (setB bs d) = false := by
  unfold setB
  split
  · exact ⟨hl, h, hz⟩
  · exact ⟨by rw [put_len]; exact hl, put_small h (by omega), put_ne (by omega)⟩
/-! search -/
theorem inT_mem {lo hi : Nat} (s : Nat) : ∀ t : Tr, t.ok lo hi → (inT s t = true ↔ s ∈ t.nums)
  | .nil, _ => by simp [inT, Tr.nums]
  | .node _ b bs l r _, ⟨a1, a2, a3, a4, a5, a6, a7, a8⟩ => by
    have ihl := inT_mem s l a7
    have ihr := inT_mem s r a8
    have ho : ∀ x ∈ ownF b bs, b ≤ x ∧ x < b + 64 * bs.length := fun x hx => mem_ownF bs b x hx
    rw [Tr.nums, List.mem_append, List.mem_append, inT]
    by_cases c1 : s < b
    · rw [if_pos c1, ihl]
      refine ⟨.inl, ?_⟩
      rintro (h | h | h)
      · exact h
      · have := ho s h; omega
      · have := mem_nums r a8 s h; omega
    · rw [if_neg c1]
      by_cases c2 : b + 2048 ≤ s
      · rw [if_pos c2, ihr]
        refine ⟨fun h => .inr (.inr h), ?_⟩
        rintro (h | h | h)
        · have := mem_nums l a7 s h; omega
        · have := ho s h; omega
        · exact h
      · rw [if_neg c2]
        have hm := mem_own bs b (s - b)
        rw [show b + (s - b) = s by omega] at hm
        rw [← hm]
        refine ⟨fun h => .inr (.inl h), ?_⟩
        rintro (h | h | h)
        · have := mem_nums l a7 s h; omega
        · exact h
        · have := mem_nums r a8 s h; omega
/-! put -/
theorem insT_rep {lo hi : Nat} (n s : Nat) (hlo : 2048 ∣ lo) (hhi : 2048 ∣ hi) : ∀ t : Tr, t.ok lo hi → lo ≤ s → s < hi → (insT n s t).ok lo hi ∧ (insT n s t).nums = insL s t.nums
  | .nil, _, h1, h2 => by
    have hz : ∀ z ∈ List.replicate 32 0, z < 18446744073709551616 := fun z hz => by rw [List.eq_of_mem_replicate hz]; decide
    have hl : (List.replicate 32 (0 : Nat)).length = 32 := List.length_replicate
    have hd : s - s / 2048 * 2048 < 2048 := by omega
    refine ⟨⟨⟨s / 2048, Nat.mul_comm _ _⟩, by omega, by omega, by rw [put_len]; exact hl, put_small hz (by omega), put_ne (by omega), trivial, trivial⟩, ?_⟩
    show [] ++ (ownF (s / 2048 * 2048) (putB (List.replicate 32 0) (s - s / 2048 * 2048)) ++ []) = [s]
    rw [List.nil_append, List.append_nil, ownF_put _ _ _ (by omega), ownF_zero _ _ (by decide)]
    show [s / 2048 * 2048 + (s - s / 2048 * 2048)] = [s]
    rw [show s / 2048 * 2048 + (s - s / 2048 * 2048) = s by omega]
  | .node g b bs l r h0, ⟨a1, a2, a3, a4, a5, a6, a7, a8⟩, h1, h2 => by
    unfold insT
    by_cases c1 : s < b
    · rw [if_pos c1]
      obtain ⟨i1, i2⟩ := insT_rep n s hlo a1 l a7 h1 c1
      refine ⟨balT_ok _ _ _ _ _ h0 ⟨a1, a2, a3, a4, a5, a6, i1, a8⟩, ?_⟩
      rw [balT_nums, i2, Tr.nums, insL_left]
      intro x hx
      rw [List.mem_append] at hx
      rcases hx with h | h
      · have := mem_ownF bs b x h; omega
      · have := mem_nums r a8 x h; omega
    · rw [if_neg c1]
      have hll : ∀ x ∈ l.nums, x < s := fun x hx => by have := mem_nums l a7 x hx; omega
      by_cases c2 : b + 2048 ≤ s
      · rw [if_pos c2]
        obtain ⟨i1, i2⟩ := insT_rep n s (Nat.dvd_add a1 (Nat.dvd_refl _)) hhi r a8 c2 h2
        refine ⟨balT_ok _ _ _ _ _ h0 ⟨a1, a2, a3, a4, a5, a6, a7, i1⟩, ?_⟩
        rw [balT_nums, i2, Tr.nums, insL_right s _ _ hll, insL_right]
        intro x hx
        have := mem_ownF bs b x hx; omega
      · rw [if_neg c2]
        obtain ⟨i1, i2, i3⟩ := setB_good (d := s - b) a4 a5 a6 (by omega)
        refine ⟨balT_ok _ _ _ _ _ h0 ⟨a1, a2, a3, i1, i2, i3, a7, a8⟩, ?_⟩
        rw [balT_nums, show (if hasB bs (s - b) = true then bs else putB bs (s - b)) = setB bs (s - b) from rfl, setB_own bs b (s - b) (by omega), Tr.nums, insL_right s _ _ hll, insL_left, show b + (s - b) = s by omega]
        intro x hx
        have := mem_nums r a8 x hx; omega
theorem setT_rep {lo hi : Nat} (s : Nat) : ∀ t : Tr, t.ok lo hi → ndT s t = true → (setT s t).ok lo hi ∧ (setT s t).nums = insL s t.nums
  | .nil, _, h => absurd h (by simp [ndT])
  | .node g b bs l r h0, ⟨a1, a2, a3, a4, a5, a6, a7, a8⟩, hn => by
    unfold setT
    unfold ndT at hn
    by_cases c1 : s < b
    · rw [if_pos c1] at hn ⊢
      obtain ⟨i1, i2⟩ := setT_rep s l a7 hn
      refine ⟨⟨a1, a2, a3, a4, a5, a6, i1, a8⟩, ?_⟩
      rw [Tr.nums, i2, Tr.nums, insL_left]
      intro x hx
      rw [List.mem_append] at hx
      rcases hx with h | h
      · have := mem_ownF bs b x h; omega
      · have := mem_nums r a8 x h; omega
    · rw [if_neg c1] at hn ⊢
      have hll : ∀ x ∈ l.nums, x < s := fun x hx => by have := mem_nums l a7 x hx; omega
      by_cases c2 : b + 2048 ≤ s
      · rw [if_pos c2] at hn ⊢
        obtain ⟨i1, i2⟩ := setT_rep s r a8 hn
        refine ⟨⟨a1, a2, a3, a4, a5, a6, a7, i1⟩, ?_⟩
        rw [Tr.nums, i2, Tr.nums, insL_right s _ _ hll, insL_right]
        intro x hx
        have := mem_ownF bs b x hx; omega
      · rw [if_neg c2]
        obtain ⟨i1, i2, i3⟩ := setB_good (d := s - b) a4 a5 a6 (by omega)
        refine ⟨⟨a1, a2, a3, i1, i2, i3, a7, a8⟩, ?_⟩
        rw [Tr.nums, show (if hasB bs (s - b) = true then bs else putB bs (s - b)) = setB bs (s - b) from rfl, setB_own bs b (s - b) (by omega), Tr.nums, insL_right s _ _ hll, insL_left, show b + (s - b) = s by omega]
        intro x hx
        have := mem_nums r a8 x hx; omega
theorem setT_ht (s : Nat) : ∀ t : Tr, (setT s t).ht = t.ht
  | .nil => rfl
  | .node g b bs l r h => by
    unfold setT
    split
    · rfl
    · split <;> rfl
theorem setT_good (s : Nat) : ∀ t : Tr, t.good → (setT s t).good
  | .nil, h => h
  | .node g b bs l r h, ⟨h1, h2, h3⟩ => by
    have e1 := setT_ht s l
    have e2 := setT_ht s r
    unfold setT
    split
    · refine ⟨?_, setT_good s l h2, h3⟩
      rw [h1]
      show (if r.ht < l.ht then l.ht else r.ht) + 1 = (if r.ht < (setT s l).ht then (setT s l).ht else r.ht) + 1
      rw [e1]
    · split
      · refine ⟨?_, h2, setT_good s r h3⟩
        rw [h1]
        show (if r.ht < l.ht then l.ht else r.ht) + 1 = (if (setT s r).ht < l.ht then l.ht else (setT s r).ht) + 1
        rw [e2]
      · exact ⟨h1, h2, h3⟩
theorem setT_sz (s : Nat) : ∀ t : Tr, (setT s t).sz = t.sz
  | .nil => rfl
  | .node g b bs l r h => by
    have h1 := setT_sz s l
    have h2 := setT_sz s r
    unfold setT
    split
    · simp only [Tr.sz, h1]
    · split
      · simp only [Tr.sz, h2]
      · rfl
/-! take -/
theorem prevT_rep (nn : Tr) {lo mid hi : Nat} (hn : nn.ok lo mid) (hm : lo ≤ mid) : ∀ t : Tr, t.ok mid hi → mid ≤ hi → (prevT nn t).ok lo hi ∧ (prevT nn t).nums = nn.nums ++ t.nums
  | .nil, _, h => ⟨Tr.ok_mono (Nat.le_refl _) h nn hn, by rw [prevT, Tr.nums, List.append_nil]⟩
  | .node g b bs l r h0, ⟨a1, a2, a3, a4, a5, a6, a7, a8⟩, h => by
    obtain ⟨i1, i2⟩ := prevT_rep nn hn hm l a7 a2
    rw [prevT]
    refine ⟨balT_ok _ _ _ _ _ h0 ⟨a1, by omega, a3, a4, a5, a6, i1, a8⟩, ?_⟩
    rw [balT_nums, i2, Tr.nums, List.append_assoc]
theorem joinT_rep {lo mid mid' hi : Nat} (h1 : lo ≤ mid) (h2 : mid ≤ mid') (h3 : mid' ≤ hi) : ∀ l r : Tr, l.ok lo mid → r.ok mid' hi → (joinT l r).ok lo hi ∧ (joinT l r).nums = l.nums ++ r.nums
  | .nil, r, _, hr => ⟨Tr.ok_mono (by omega) (Nat.le_refl _) r hr, by rw [joinT, Tr.nums, List.nil_append]⟩
  | .node g b bs x y h, .nil, hl, _ => ⟨Tr.ok_mono (Nat.le_refl _) (by omega) _ hl, by rw [joinT, show Tr.nil.nums = [] from rfl, List.append_nil]⟩
  | .node g b bs x y h, .node g2 b2 bs2 x2 y2 k2, hl, hr => prevT_rep _ hl h1 _ (Tr.ok_mono h2 (Nat.le_refl _) _ hr) (by omega)
theorem reT_nums : ∀ t : Tr, (reT t).nums = t.nums
  | .nil => rfl
  | .node g b bs l r h => balT_nums _ _ _ _ _
theorem reT_ok {lo hi : Nat} : ∀ t : Tr, t.ok lo hi → (reT t).ok lo hi
  | .nil, h => h
  | .node g b bs l r h, hh => balT_ok _ _ _ _ _ h hh
theorem delT_rep {lo hi : Nat} (s : Nat) : ∀ t : Tr, t.ok lo hi → (delT s t).ok lo hi ∧ (delT s t).nums = delL s t.nums
  | .nil, _ => ⟨trivial, rfl⟩
  | .node g b bs l r h0, ⟨a1, a2, a3, a4, a5, a6, a7, a8⟩ => by
    unfold delT
    by_cases c1 : s < b
    · rw [if_pos c1]
      obtain ⟨i1, i2⟩ := delT_rep s l a7
      have hn : (delT s l).nums ++ (ownF b bs ++ r.nums) = delL s (l.nums ++ (ownF b bs ++ r.nums)) := by
        rw [i2, delL_left]
        intro x hx
        rw [List.mem_append] at hx
        rcases hx with h | h
        · have := mem_ownF bs b x h; omega
        · have := mem_nums r a8 x h; omega
      split
      · exact ⟨balT_ok _ _ _ _ _ h0 ⟨a1, a2, a3, a4, a5, a6, i1, a8⟩, by rw [balT_nums, Tr.nums, hn]⟩
      · exact ⟨⟨a1, a2, a3, a4, a5, a6, i1, a8⟩, by rw [Tr.nums, Tr.nums, hn]⟩
    · rw [if_neg c1]
      have hll : ∀ x ∈ l.nums, x < s := fun x hx => by have := mem_nums l a7 x hx; omega
      by_cases c2 : b + 2048 ≤ s
      · rw [if_pos c2]
        obtain ⟨i1, i2⟩ := delT_rep s r a8
        have hn : l.nums ++ (ownF b bs ++ (delT s r).nums) = delL s (l.nums ++ (ownF b bs ++ r.nums)) := by
          rw [i2, delL_right s _ _ hll, delL_right]
          intro x hx
          have := mem_ownF bs b x hx; omega
        split
        · exact ⟨balT_ok _ _ _ _ _ h0 ⟨a1, a2, a3, a4, a5, a6, a7, i1⟩, by rw [balT_nums, Tr.nums, hn]⟩
        · exact ⟨⟨a1, a2, a3, a4, a5, a6, a7, i1⟩, by rw [Tr.nums, Tr.nums, hn]⟩
      · rw [if_neg c2]
        have hrr : ∀ x ∈ r.nums, s < x := fun x hx => by have := mem_nums r a8 x hx; omega
        have hd : s - b < 64 * bs.length := by omega
        have hdl : ∀ bs' : List Nat, ownF b bs' = delL s (ownF b bs) → l.nums ++ (ownF b bs' ++ r.nums) = delL s (l.nums ++ (ownF b bs ++ r.nums)) := fun bs' e => by rw [e, delL_right s _ _ hll, delL_left s _ _ hrr]
        by_cases hq : hasB bs (s - b) = true
        · have e0 : ownF b (clrB bs (s - b)) = delL s (ownF b bs) := by rw [ownF_clr bs b (s - b) hq, show b + (s - b) = s by omega]
          by_cases hz : zeroB (clrB bs (s - b)) = true
          · rw [if_pos (by rw [hq, hz]; rfl)]
            obtain ⟨j1, j2⟩ := joinT_rep a2 (show b ≤ b + 2048 by omega) a3 l r a7 a8
            refine ⟨reT_ok _ j1, ?_⟩
            have h5 := hdl _ e0
            rw [ownF_zero _ _ hz, List.nil_append] at h5
            rw [reT_nums, j2, h5]
            rfl
          · rw [if_neg (by rw [hq, Bool.true_and]; exact hz), if_pos hq]
            exact ⟨⟨a1, a2, a3, by rw [clr_len]; exact a4, clr_small a5 hd, by simpa using hz, a7, a8⟩, hdl _ e0⟩
        · have hq' : hasB bs (s - b) = false := by simpa using hq
          rw [if_neg (by rw [hq']; simp), if_neg hq]
          refine ⟨⟨a1, a2, a3, a4, a5, a6, a7, a8⟩, ?_⟩
          refine hdl bs ?_
          rw [delL_out s _ ?_ (ownF_sorted bs b)]
          intro hm
          have := (mem_own bs b (s - b)).1 (by rw [show b + (s - b) = s by omega]; exact hm)
          exact hq this
/-- Above all numbers that are asked. -/
def top64 : Nat := 18446744073709549568
structure Rep (t : Tr) (L : List Nat) : Prop where
  good : t.good
  ok : t.ok 0 top64
  nums : t.nums = L
theorem Rep.nil : Rep .nil [] := ⟨trivial, trivial, rfl⟩
theorem Rep.sorted {t : Tr} {L : List Nat} (h : Rep t L) : L.Pairwise (· < ·) := by rw [← h.nums]; exact nums_sorted t h.ok
theorem Rep.fit {t : Tr} {L : List Nat} (h : Rep t L) : t.fit := fit_of_ok t 0 top64 (Nat.le_refl _) h.ok
theorem Rep.sz {t : Tr} {L : List Nat} (h : Rep t L) : t.sz ≤ L.length := by rw [← h.nums]; exact sz_nums t h.ok
theorem Rep.isIn {t : Tr} {L : List Nat} (h : Rep t L) (s : Nat) : inT s t = true ↔ s ∈ L := by rw [← h.nums]; exact inT_mem s t h.ok
theorem Rep.add {t : Tr} {L : List Nat} (h : Rep t L) (n s : Nat) (hs : s < top64) : Rep (addT n s t) (insL s L) := by
  unfold addT
  split
  · rename_i hn
    obtain ⟨h1, h2⟩ := setT_rep s t h.ok hn
    exact ⟨setT_good s t h.good, h1, by rw [h2, h.nums]⟩
  · obtain ⟨h1, h2⟩ := insT_rep n s ⟨0, rfl⟩ (show 2048 ∣ top64 from ⟨9007199254740991, rfl⟩) t h.ok (Nat.zero_le _) hs
    exact ⟨insT_good n s t h.good, h1, by rw [h2, h.nums]⟩
theorem Rep.sub {t : Tr} {L : List Nat} (h : Rep t L) (s : Nat) : Rep (subT s L.length t) (delL s L) := by
  unfold subT
  split
  · rename_i hc
    obtain ⟨h1, h2⟩ := hc
    have hm := (h.isIn s).1 h1
    have hl : L.length = 1 := by omega
    obtain ⟨x, rfl⟩ := List.length_eq_one_iff.1 hl
    rw [List.mem_singleton.1 hm]
    refine ⟨trivial, trivial, ?_⟩
    rw [delL, if_neg (by omega), if_pos rfl]
    rfl
  · obtain ⟨h1, h2⟩ := delT_rep s t h.ok
    exact ⟨delT_good s t h.good, h1, by rw [h2, h.nums]⟩

end Go.Proofs.YtjhdnapgdajllaaDoor.SetW
