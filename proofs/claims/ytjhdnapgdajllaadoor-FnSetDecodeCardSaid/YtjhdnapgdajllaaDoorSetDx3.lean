/- WALKS: whatever number is put into a set. -/
import Derived.Test.YtjhdnapgdajllaaDoorProg
import Derived.Below
import Derived.Deep.Draws
import Derived.Deep.AppendLies
import Derived.Maps.AppendAt
import Derived.OwnWalk
import Derived.Laws.BytesArg
import Derived.Laws.MakeOwn
import Derived.Laws.OwnMore
import Derived.Deep.OwnRows
import Derived.Tactics
import Derived.Lib.ConvBytes
import Derived.Laws.Slices
import Derived.WalkKit
import Derived.KernelRfl
import Derived.RowKit3
import Derived.Deep.LoopGhost
import Derived.Deep.QuietTactic
import Derived.BigQuiet
import Derived.WideLaws
import Derived.Deep.DeepCutAuto
import Derived.Deep.CutBlock
import Derived.Deep.RegionHeld3
import Derived.Laws.Rows
import Derived.Lib.AppendStr
import Derived.ArgAppend
import Derived.Laws.IdiomCopy
import Derived.OrdersHeld
import Derived.Laws.BitsLemmas
import Derived.RowKit
import Derived.Test.YtjhdnapgdajllaaDoorWWords
import Derived.Test.YtjhdnapgdajllaaDoorWLast
import Derived.Test.YtjhdnapgdajllaaDoorWTab
import Derived.Test.YtjhdnapgdajllaaDoorWFour
import Derived.Test.YtjhdnapgdajllaaDoorWQPut
import Derived.Test.YtjhdnapgdajllaaDoorWApart
import Derived.Test.YtjhdnapgdajllaaDoorWArr
import Derived.Test.YtjhdnapgdajllaaDoorWZeros
import Derived.Test.YtjhdnapgdajllaaDoorWFoot
import Derived.Test.YtjhdnapgdajllaaDoorWKept
import Derived.Test.YtjhdnapgdajllaaDoorWShare
import Derived.Test.YtjhdnapgdajllaaDoorWN
import Derived.Test.YtjhdnapgdajllaaDoorWFootNe
import Derived.Test.YtjhdnapgdajllaaDoorWAt
import Derived.Test.YtjhdnapgdajllaaDoorWEqStruct
import Derived.Test.YtjhdnapgdajllaaDoorWRepsOne
import Derived.Test.YtjhdnapgdajllaaDoorWInv
import Derived.Test.YtjhdnapgdajllaaDoorWInvWords
import Derived.Test.YtjhdnapgdajllaaDoorWGuard
import Derived.Test.YtjhdnapgdajllaaDoorWNEv
import Derived.Test.YtjhdnapgdajllaaDoorWMore
import Derived.Test.YtjhdnapgdajllaaDoorSetDx2
namespace Go.Proofs.YtjhdnapgdajllaaDoor.SetInsXW
open Go.RowKit Go.Proofs.YtjhdnapgdajllaaDoorW.PrintWords Go.Proofs.YtjhdnapgdajllaaDoorW.PrintLast Go.Proofs.YtjhdnapgdajllaaDoorW.PrintMore
attribute [local go_sem] max2_int min2_int max_two min_two max_three min_three max_four min_four   -- for this text's walks alone
set_option linter.unusedVariables false
set_option linter.unusedSimpArgs false



open _root_.Go.Proofs.YtjhdnapgdajllaaDoor.SetW _root_.Go.Proofs.YtjhdnapgdajllaaDoor.SetEncW _root_.Go.Proofs.YtjhdnapgdajllaaDoor.SetDecW _root_.Go.Proofs.YtjhdnapgdajllaaDoor.SetIterG
/-- A node's end, as it is counted. -/
@[irreducible] def eB (b : Nat) : Nat := (b + 2048) % 18446744073709551616
theorem eB_le (b : Nat) : eB b ≤ b + 2048 := by unfold eB; exact Nat.mod_le _ _
theorem wrap_eB (b : Nat) : IntKind.u64.wrap ((b : Int) + 2048) = ((eB b : Nat) : Int) := by
  unfold eB
  have := wu64m (b + 2048)
  rw [Int.natCast_add] at this
  exact this
def fitX : Tr → Prop
  | .nil => True
  | .node _ b bs l r _ => b < 18446744073709551616 ∧ (∀ z ∈ bs, z < 18446744073709551616) ∧ fitX l ∧ fitX r
def insX (n s : Nat) : Tr → Tr
  | .nil => .node n (s / 2048 * 2048) (putB (List.replicate 32 0) (s - s / 2048 * 2048)) .nil .nil 1
  | .node g b bs l r _ =>
    if s < b then balT g b bs (insX n s l) r
    else if eB b ≤ s then balT g b bs l (insX n s r)
    else balT g b (if hasB bs (s - b) = true then bs else putB bs (s - b)) l r
/-- Is it there? -/
def inX (s : Nat) : Tr → Bool
  | .nil => false
  | .node _ b bs l r _ => if s < b then inX s l else if eB b ≤ s then inX s r else hasB bs (s - b)
/-- Is a node for it there? -/
def ndX (s : Nat) : Tr → Bool
  | .nil => false
  | .node _ b _ l r _ => if s < b then ndX s l else if eB b ≤ s then ndX s r else true
theorem insX_bl (n s : Nat) : ∀ t : Tr, (insX n s t).bl.Perm (if ndX s t = true then t.bl else n :: t.bl)
  | .nil => List.Perm.refl _
  | .node g b bs l r h => by
    have ihl := insX_bl n s l
    have ihr := insX_bl n s r
    unfold insX ndX
    by_cases c1 : s < b
    · rw [if_pos c1, if_pos c1]
      refine (balT_bl _ _ _ _ _).trans ?_
      refine ((ihl.append_right r.bl).cons g).trans ?_
      split
      · exact List.Perm.refl _
      · exact List.Perm.swap _ _ _
    · rw [if_neg c1, if_neg c1]
      by_cases c2 : eB b ≤ s
      · rw [if_pos c2, if_pos c2]
        refine (balT_bl _ _ _ _ _).trans ?_
        refine ((ihr.append_left l.bl).cons g).trans ?_
        split
        · exact List.Perm.refl _
        · rw [List.perm_iff_count]
          intro x
          simp only [Tr.bl, List.count_cons, List.count_append]
          omega
      · rw [if_neg c2, if_neg c2, if_pos rfl]
        exact balT_bl _ _ _ _ _
theorem insX_sz (n s : Nat) : ∀ t : Tr, (insX n s t).sz = t.sz + if ndX s t = true then 0 else 1
  | .nil => rfl
  | .node g b bs l r h => by
    have ihl := insX_sz n s l
    have ihr := insX_sz n s r
    unfold insX ndX
    by_cases c1 : s < b
    · rw [if_pos c1, if_pos c1, balT_sz, ihl]; simp only [Tr.sz]; omega
    · rw [if_neg c1, if_neg c1]
      by_cases c2 : eB b ≤ s
      · rw [if_pos c2, if_pos c2, balT_sz, ihr]; simp only [Tr.sz]; omega
      · rw [if_neg c2, if_neg c2, if_pos rfl, balT_sz]; rfl
theorem insX_good (n s : Nat) : ∀ t : Tr, t.good → (insX n s t).good
  | .nil, _ => ⟨rfl, trivial, trivial⟩
  | .node g b bs l r h, hg => by
    have ihl := insX_good n s l hg.2.1
    have ihr := insX_good n s r hg.2.2
    unfold insX
    split
    · exact balT_good _ _ _ _ _ ihl hg.2.2
    · split
      · exact balT_good _ _ _ _ _ hg.2.1 ihr
      · exact balT_good _ _ _ _ _ hg.2.1 hg.2.2
theorem insX_sub (n s : Nat) (t : Tr) : ∀ x ∈ (insX n s t).bl, x ∈ t.bl ∨ x = n := by
  intro x hx
  have := (insX_bl n s t).subset hx
  split at this
  · exact .inl this
  · rcases List.mem_cons.1 this with h | h
    · exact .inr h
    · exact .inl h
theorem insX_nodup (n s : Nat) (t : Tr) (h : t.bl.Nodup) (hn : n ∉ t.bl) : (insX n s t).bl.Nodup := by
  refine (insX_bl n s t).nodup_iff.2 ?_
  split
  · exact h
  · exact List.nodup_cons.2 ⟨hn, h⟩
set_option maxRecDepth 100000 in
theorem zerosX_has (d : Nat) : hasB (List.replicate 32 0) d = false := by
  unfold hasB
  rw [List.getD_eq_getElem?_getD, List.getElem?_replicate]
  split <;> simp
set_option maxHeartbeats 16000000 in
set_option maxRecDepth 100000 in
theorem insertX_calls (s SS : Nat) (R : Value) (sz nn : Int) (ch : Bool) (hs : s < 18446744073709551616) (hnn : 0 ≤ nn ∧ nn ≤ 1000000) : ∀ (t : Tr) (w : World), t.at w → t.bl.Nodup → t.good → t.sz ≤ 10000 → fitX t → w.heap[SS]? = some (.cells (ssC R sz nn ch) 84 (0, 0)) → SS ∉ t.bl →
    Calls Tryd.prog 71 #[t.p, .int .u64 (s : Int), .pointer (some ⟨SS, 3, none⟩), .pointer (some ⟨SS, 2, none⟩)] w fun e w' => e = .returned ((insX w.heap.size s t).p) ∧ (insX w.heap.size s t).at w' ∧ w'.heap[SS]? = some (.cells (ssC R sz (nn + if ndX s t = true then 0 else 1) (if inX s t = true then ch else true)) 84 (0, 0)) ∧ Chg (SS :: t.bl) w w' := by
  intro t
  induction t with
  | nil =>
    intro w ha hnd hg hsz hf hS hSS
    show Calls Tryd.prog 71 #[.pointer none, .int .u64 (s : Int), .pointer (some ⟨SS, 3, none⟩), .pointer (some ⟨SS, 2, none⟩)] w fun e w' => e = .returned (.pointer (some ⟨w.heap.size, 0, none⟩)) ∧ (insX w.heap.size s .nil).at w' ∧ w'.heap[SS]? = some (.cells (ssC R sz (nn + 1) true) 84 (0, 0)) ∧ Chg [SS] w w'
    obtain ⟨t, ht⟩ : ∃ t, t = s / 2048 := ⟨_, rfl⟩
    obtain ⟨b, hb⟩ : ∃ b, b = t * 2048 := ⟨_, rfl⟩
    have e1 : (s : Int) / 2048 = (t : Int) := by omega
    have e2 : IntKind.u64.wrap (t : Int) = (t : Int) := Road.wu64 _ _ rfl (by omega) (by omega)
    have e3 : IntKind.u64.wrap ((t : Int) * 2048) = (b : Int) := Road.wu64 _ _ (by omega) (by omega) (by omega)
    have HTB := Aside0.mk (And.intro ht hb)
    have HHS := Aside0.mk hs
    have HNN := Aside0.mk hnn
    have HSB := Aside0.mk hS
    clear ha hnd hg hsz hf hS hSS ht hb hs hnn
    go_enter Tryd.func71, Tryd.ntmps71
    go_wp2_with fail
    have hslt : SS < w.heap.size := (Array.getElem?_eq_some_iff.1 HSB.out).1
    refine (set_calls w.heap.size b (List.replicate 32 0) (.pointer none) (.pointer none) 1 SS R sz nn ch s _ (by rw [List.length_replicate]) (heap_alloc_new w _) (by rw [Below.heap_alloc _ _ _ hslt]; exact HSB.out) (Nat.ne_of_gt hslt) (by have := HTB.out; omega) (by have := HTB.out; omega) (by have := HHS.out; omega) (fun z hz => by rw [List.eq_of_mem_replicate hz]; decide) false (zerosX_has _).symm).mono ?_
    rintro e w1 ⟨rfl, g1, s1, c1⟩
    simp only [Bool.false_eq_true, if_false] at g1 s1
    have c2 := cell_of_row w1 SS 2 _ _ _ s1
    replace c2 : w1.cell? ⟨SS, 2, none⟩ = some (.int .i64 nn) := c2
    have f2 : w1.frozen? ⟨SS, 2, none⟩ = false := by simp [World.frozen?, s1]
    have C0 : Chg [SS] w (w.alloc (.cells (cellsN b (List.replicate 32 0) (.pointer none) (.pointer none) 1) 88 (0, 0))) := ⟨rfl, rfl, rfl, by simp, fun k hk _ => Below.heap_alloc _ _ _ hk⟩
    have C1 : Chg [SS] w w1 := C0.trans c1 (fun x h => h) (fun x hx hl => by
      rcases List.mem_cons.1 hx with rfl | hx
      · omega
      · exact hx)
    have H1 := Aside0.mk (And.intro g1 (And.intro s1 (And.intro C1 hslt)))
    clear g1 s1 c1 C0 C1 hslt
    go_wp2_with fail
    go_ret
    obtain ⟨g1, s1, C1, hslt⟩ := H1.out
    have E := setCell_eq_setRow w1 SS 2 _ 84 (0, 0) (.int .i64 (wrap64 (nn + 1))) s1
    rw [E]
    have ew : wrap64 (nn + 1) = nn + 1 := Road.w64 _ _ rfl (by have := HNN.out; omega) (by have := HNN.out; omega)
    refine ⟨rfl, ⟨?_, ?_, trivial, trivial⟩, ?_, C1.trans (Chg.row _ SS _) (fun x h => h) (fun x h _ => h)⟩
    · rw [putB, List.length_set, List.length_replicate]
    · rw [setRow_other _ _ _ _ (Nat.ne_of_gt hslt), g1, HTB.out.2, HTB.out.1]
      rfl
    · rw [setRow_heap _ _ _ _ _ _ s1, ew]
      rfl
  | node g b bs l r h0 ihl ihr =>
    intro w ha hnd hg hsz hf hS hSS
    show Calls Tryd.prog 71 #[.pointer (some ⟨g, 0, none⟩), .int .u64 (s : Int), .pointer (some ⟨SS, 3, none⟩), .pointer (some ⟨SS, 2, none⟩)] w _
    obtain ⟨nn2, hn2⟩ : ∃ z : Int, z = nn + if ndX s (.node g b bs l r h0) = true then 0 else 1 := ⟨_, rfl⟩
    obtain ⟨ch2, hc2⟩ : ∃ z : Bool, z = if inX s (.node g b bs l r h0) = true then ch else true := ⟨_, rfl⟩
    rw [← hn2, ← hc2]
    have HN2 := Aside0.mk hn2
    have HC2 := Aside0.mk hc2
    clear hn2 hc2
    have k1 := nd_base ha.2.1
    have kl := nd_l ha.2.1 ha.1
    have kr := nd_r ha.2.1 ha.1
    have hb2 : IntKind.u64.wrap ((b : Int) + 2048) = ((eB b : Nat) : Int) := wrap_eB b
    obtain ⟨b2, hbb⟩ : ∃ b2, b2 = eB b := ⟨_, rfl⟩
    rw [← hbb] at hb2
    have HT := Aside0.mk (And.intro ha (And.intro hnd (And.intro hg (And.intro hsz (And.intro hf (And.intro hS hSS))))))
    have HBB := Aside0.mk hbb
    have HHS := Aside0.mk hs
    have HNN := Aside0.mk hnn
    clear ha hnd hg hsz hf hS hSS hbb hs hnn
    go_enter Tryd.func71, Tryd.ntmps71
    go_upto_if 35 with fail
    go_cut [35] from 36 (fun _ wx => ∃ (bs' : List Nat) (l' r' : Tr), Aside0 (insX w.heap.size s (.node g b bs l r h0) = balT g b bs' l' r') ∧ Aside0 (Tr.at wx (.node g b bs' l' r' h0)) ∧ Aside0 ((Tr.node g b bs' l' r' h0).bl.Nodup) ∧ Aside0 (l'.good ∧ r'.good ∧ l'.sz + r'.sz ≤ 10001) ∧ Aside0 (wx.heap[SS]? = some (.cells (ssC R sz nn2 ch2) 84 (0, 0))) ∧ Aside0 (Chg (SS :: (Tr.node g b bs l r h0).bl) w wx) ∧ Aside0 (SS ≠ g ∧ SS ∉ l'.bl ++ r'.bl ∧ ∀ x ∈ (g :: (l'.bl ++ r'.bl)), x < w.heap.size → x ∈ SS :: (Tr.node g b bs l r h0).bl))
    case first =>
      obtain ⟨ha, hnd, hg, hsz, hf, hS, hSS⟩ := HT.out
      have hsg : SS ≠ g := fun e => hSS (by rw [e]; exact List.mem_cons_self)
      have hsl : SS ∉ l.bl := fun e => hSS (List.mem_cons_of_mem _ (List.mem_append_left _ e))
      have hsr : SS ∉ r.bl := fun e => hSS (List.mem_cons_of_mem _ (List.mem_append_right _ e))
      have hlt : ∀ x ∈ (Tr.node g b bs l r h0).bl, x < w.heap.size := at_lt _ ha
      have nd := List.nodup_cons.1 hnd
      have nd2 := List.nodup_append.1 nd.2
      have hzz : l.sz + r.sz + 1 ≤ 10000 := hsz
      by_cases c : s < b
      · have c' : decide ((s : Int) < (b : Int)) = true := decide_eq_true (by omega)
        have c'' : decide (s < b) = true := decide_eq_true c
        rw [c'']
        have HH := Aside0.mk (And.intro ha (And.intro nd (And.intro nd2 (And.intro hg (And.intro hzz (And.intro hf (And.intro hS (And.intro hsg (And.intro hsl (And.intro hsr hlt))))))))))
        have HC := Aside0.mk c
        clear ha hnd hg hsz hf hS hSS hsg hsl hsr hlt nd nd2 hzz c
        replace kl : w.cell? ⟨g, 33, none⟩ = some (.pointer l.pp) := kl
        have fl := nd_free HT.out.1.2.1 33
        go_wp2_with fail
        have hx := ihl w HH.out.1.2.2.1 HH.out.2.2.1.1 HH.out.2.2.2.1.2.1 (by have := HH.out.2.2.2.2.1; omega) HH.out.2.2.2.2.2.1.2.2.1 HH.out.2.2.2.2.2.2.1 HH.out.2.2.2.2.2.2.2.2.1
        refine hx.mono ?_
        clear hx
        rintro e w1 ⟨rfl, a1, s1, c1⟩
        obtain ⟨ha, nd, nd2, hg, hzz, hf, hS, hsg, hsl, hsr, hlt⟩ := HH.out
        have hn : w.heap.size ∉ (Tr.node g b bs l r h0).bl := fun hh => Nat.lt_irrefl _ (hlt _ hh)
        have sub := insX_sub w.heap.size s l
        have q1 : w1.heap[g]? = _ := (c1.keep g (Array.getElem?_eq_some_iff.1 ha.2.1).1 (fun hh => (List.mem_cons.1 hh).elim (fun e => hsg e.symm) (fun e => nd.1 (List.mem_append_left _ e)))).trans ha.2.1
        have ar : r.at w1 := at_keep c1 r ha.2.2.2 (fun y hy hh => (List.mem_cons.1 hh).elim (fun e => hsr (e ▸ hy)) (fun e => nd2.2.2 y e y hy rfl))
        have gnl : g ∉ (insX w.heap.size s l).bl := fun hh => (sub g hh).elim (fun e => nd.1 (List.mem_append_left _ e)) (fun e => hn (by rw [← e]; exact List.mem_cons_self))
        obtain ⟨X, hX⟩ : ∃ X, X = (insX w.heap.size s l).pp := ⟨_, rfl⟩
        rw [show (insX w.heap.size s l).p = .pointer X by rw [hX]]
        have H1 := Aside0.mk (And.intro a1 (And.intro s1 (And.intro c1 (And.intro hn (And.intro sub (And.intro q1 (And.intro ar (And.intro gnl hX))))))))
        have cl1 := nd_l q1 ha.1
        have fl1 := nd_free q1 33
        clear ha nd nd2 hg hzz hf hS hsg hsl hsr hlt a1 s1 c1 hn sub q1 ar gnl hX kl fl
        go_wp2_with fail
        go_meet
        obtain ⟨ha, nd, nd2, hg, hzz, hf, hS, hsg, hsl, hsr, hlt⟩ := HH.out
        obtain ⟨a1, s1, c1, hn, sub, q1, ar, gnl, hX⟩ := H1.out
        have c := HC.out
        rw [nd_setL q1 ha.1, show (Value.pointer X) = (insX w.heap.size s l).p by rw [hX]]
        have c6 := Chg.row w1 g (cellsN b bs (insX w.heap.size s l).p r.p h0)
        refine ⟨bs, insX w.heap.size s l, r, ⟨by rw [insX, if_pos c]⟩, ⟨ha.1, setRow_heap _ _ _ _ _ _ q1, at_keep c6 _ a1 (fun y hy => by simp; rintro rfl; exact gnl hy), at_keep c6 _ ar (fun y hy => by simp; rintro rfl; exact nd.1 (List.mem_append_right _ hy))⟩, ⟨?_⟩, ⟨insX_good _ _ _ hg.2.1, hg.2.2, ?_⟩, ⟨?_⟩, ⟨?_⟩, ⟨hsg, ?_, ?_⟩⟩
        · refine List.nodup_cons.2 ⟨fun hh => (List.mem_append.1 hh).elim gnl (fun e => nd.1 (List.mem_append_right _ e)), List.nodup_append.2 ⟨insX_nodup _ _ _ nd2.1 (fun e => hn (List.mem_cons_of_mem _ (List.mem_append_left _ e))), nd2.2.1, fun x hx y hy => ?_⟩⟩
          rcases sub x hx with h | h
          · exact nd2.2.2 x h y hy
          · rintro rfl
            exact hn (by rw [← h]; exact List.mem_cons_of_mem _ (List.mem_append_right _ hy))
        · rw [insX_sz]
          split <;> omega
        · rw [setRow_other _ _ _ _ hsg, s1, HN2.out, HC2.out, ndX, if_pos c, inX, if_pos c]
        · exact c1.trans c6 (fun x hx => (List.mem_cons.1 hx).elim (fun e => by rw [e]; exact List.mem_cons_self) (fun e => List.mem_cons_of_mem _ (List.mem_cons_of_mem _ (List.mem_append_left _ e)))) (fun x hx _ => by rw [List.mem_singleton.1 hx]; exact List.mem_cons_of_mem _ List.mem_cons_self)
        · intro hh
          rcases List.mem_append.1 hh with e | e
          · rcases sub _ e with e | e
            · exact hsl e
            · have := (Array.getElem?_eq_some_iff.1 hS).1; omega
          · exact hsr e
        · intro x hx hlx
          rcases List.mem_cons.1 hx with rfl | hx
          · exact List.mem_cons_of_mem _ List.mem_cons_self
          · rcases List.mem_append.1 hx with e | e
            · rcases sub _ e with e | e
              · exact List.mem_cons_of_mem _ (List.mem_cons_of_mem _ (List.mem_append_left _ e))
              · omega
            · exact List.mem_cons_of_mem _ (List.mem_cons_of_mem _ (List.mem_append_right _ e))
      · have c' : decide ((s : Int) < (b : Int)) = false := decide_eq_false (by omega)
        have c'' : decide (s < b) = false := decide_eq_false c
        by_cases c2 : eB b ≤ s
        · have d' : decide ((b2 : Int) ≤ (s : Int)) = true := decide_eq_true (by have := HBB.out; omega)
          have d'' : decide (b2 ≤ s) = true := decide_eq_true (by have := HBB.out; omega)
          rw [c'']
          have HH := Aside0.mk (And.intro ha (And.intro nd (And.intro nd2 (And.intro hg (And.intro hzz (And.intro hf (And.intro hS (And.intro hsg (And.intro hsl (And.intro hsr hlt))))))))))
          have HC := Aside0.mk (And.intro c c2)
          clear ha hnd hg hsz hf hS hSS hsg hsl hsr hlt nd nd2 hzz c c2
          replace kr : w.cell? ⟨g, 34, none⟩ = some (.pointer r.pp) := kr
          have fl := nd_free HT.out.1.2.1 34
          go_wp2_with fail
          have hx := ihr w HH.out.1.2.2.2 HH.out.2.2.1.2.1 HH.out.2.2.2.1.2.2 (by have := HH.out.2.2.2.2.1; omega) HH.out.2.2.2.2.2.1.2.2.2 HH.out.2.2.2.2.2.2.1 HH.out.2.2.2.2.2.2.2.2.2.1
          refine hx.mono ?_
          clear hx
          rintro e w1 ⟨rfl, a1, s1, c1⟩
          obtain ⟨ha, nd, nd2, hg, hzz, hf, hS, hsg, hsl, hsr, hlt⟩ := HH.out
          have hn : w.heap.size ∉ (Tr.node g b bs l r h0).bl := fun hh => Nat.lt_irrefl _ (hlt _ hh)
          have sub := insX_sub w.heap.size s r
          have q1 : w1.heap[g]? = _ := (c1.keep g (Array.getElem?_eq_some_iff.1 ha.2.1).1 (fun hh => (List.mem_cons.1 hh).elim (fun e => hsg e.symm) (fun e => nd.1 (List.mem_append_right _ e)))).trans ha.2.1
          have ar : l.at w1 := at_keep c1 l ha.2.2.1 (fun y hy hh => (List.mem_cons.1 hh).elim (fun e => hsl (e ▸ hy)) (fun e => nd2.2.2 y hy y e rfl))
          have gnl : g ∉ (insX w.heap.size s r).bl := fun hh => (sub g hh).elim (fun e => nd.1 (List.mem_append_right _ e)) (fun e => hn (by rw [← e]; exact List.mem_cons_self))
          obtain ⟨X, hX⟩ : ∃ X, X = (insX w.heap.size s r).pp := ⟨_, rfl⟩
          rw [show (insX w.heap.size s r).p = .pointer X by rw [hX]]
          have H1 := Aside0.mk (And.intro a1 (And.intro s1 (And.intro c1 (And.intro hn (And.intro sub (And.intro q1 (And.intro ar (And.intro gnl hX))))))))
          have cl1 := nd_r q1 ha.1
          have fl1 := nd_free q1 34
          clear ha nd nd2 hg hzz hf hS hsg hsl hsr hlt a1 s1 c1 hn sub q1 ar gnl hX kr fl
          go_wp2_with fail
          go_meet
          obtain ⟨ha, nd, nd2, hg, hzz, hf, hS, hsg, hsl, hsr, hlt⟩ := HH.out
          obtain ⟨a1, s1, c1, hn, sub, q1, ar, gnl, hX⟩ := H1.out
          have c := HC.out.1
          have c2 := HC.out.2
          rw [nd_setR q1 ha.1, show (Value.pointer X) = (insX w.heap.size s r).p by rw [hX]]
          have c6 := Chg.row w1 g (cellsN b bs l.p (insX w.heap.size s r).p h0)
          refine ⟨bs, l, insX w.heap.size s r, ⟨by rw [insX, if_neg c, if_pos c2]⟩, ⟨ha.1, setRow_heap _ _ _ _ _ _ q1, at_keep c6 _ ar (fun y hy => by simp; rintro rfl; exact nd.1 (List.mem_append_left _ hy)), at_keep c6 _ a1 (fun y hy => by simp; rintro rfl; exact gnl hy)⟩, ⟨?_⟩, ⟨hg.2.1, insX_good _ _ _ hg.2.2, ?_⟩, ⟨?_⟩, ⟨?_⟩, ⟨hsg, ?_, ?_⟩⟩
          · refine List.nodup_cons.2 ⟨fun hh => (List.mem_append.1 hh).elim (fun e => nd.1 (List.mem_append_left _ e)) gnl, List.nodup_append.2 ⟨nd2.1, insX_nodup _ _ _ nd2.2.1 (fun e => hn (List.mem_cons_of_mem _ (List.mem_append_right _ e))), fun x hx y hy => ?_⟩⟩
            rcases sub y hy with h | h
            · exact nd2.2.2 x hx y h
            · rintro rfl
              exact hn (by rw [← h]; exact List.mem_cons_of_mem _ (List.mem_append_left _ hx))
          · rw [insX_sz]
            split <;> omega
          · rw [setRow_other _ _ _ _ hsg, s1, HN2.out, HC2.out, ndX, if_neg c, if_pos c2, inX, if_neg c, if_pos c2]
          · exact c1.trans c6 (fun x hx => (List.mem_cons.1 hx).elim (fun e => by rw [e]; exact List.mem_cons_self) (fun e => List.mem_cons_of_mem _ (List.mem_cons_of_mem _ (List.mem_append_right _ e)))) (fun x hx _ => by rw [List.mem_singleton.1 hx]; exact List.mem_cons_of_mem _ List.mem_cons_self)
          · intro hh
            rcases List.mem_append.1 hh with e | e
            · exact hsl e
            · rcases sub _ e with e | e
              · exact hsr e
              · have := (Array.getElem?_eq_some_iff.1 hS).1; omega
          · intro x hx hlx
            rcases List.mem_cons.1 hx with rfl | hx
            · exact List.mem_cons_of_mem _ List.mem_cons_self
            · rcases List.mem_append.1 hx with e | e
              · exact List.mem_cons_of_mem _ (List.mem_cons_of_mem _ (List.mem_append_left _ e))
              · rcases sub _ e with e | e
                · exact List.mem_cons_of_mem _ (List.mem_cons_of_mem _ (List.mem_append_right _ e))
                · omega
        · have d' : decide ((b2 : Int) ≤ (s : Int)) = false := decide_eq_false (by have := HBB.out; omega)
          have d'' : decide (b2 ≤ s) = false := decide_eq_false (by have := HBB.out; omega)
          rw [c'']
          have HH := Aside0.mk (And.intro ha (And.intro nd (And.intro nd2 (And.intro hg (And.intro hzz (And.intro hf (And.intro hS (And.intro hsg (And.intro hsl (And.intro hsr hlt))))))))))
          have HC := Aside0.mk (And.intro c c2)
          clear ha hnd hg hsz hf hS hSS hsg hsl hsr hlt nd nd2 hzz c c2
          go_wp2_with fail
          refine (set_calls g b bs l.p r.p h0 SS R sz nn ch s w HH.out.1.1 HH.out.1.2.1 HH.out.2.2.2.2.2.2.1 HH.out.2.2.2.2.2.2.2.1.symm (by have := HC.out.1; omega) (by have := HC.out.2; have := eB_le b; omega) (by have := HHS.out; omega) HH.out.2.2.2.2.2.1.2.1 (hasB bs (s - b)) rfl).mono ?_
          rintro e w1 ⟨rfl, g1, s1, c1⟩
          have H1 := Aside0.mk (And.intro g1 (And.intro s1 c1))
          clear g1 s1 c1
          go_wp2_with fail
          go_meet
          obtain ⟨ha, nd, nd2, hg, hzz, hf, hS, hsg, hsl, hsr, hlt⟩ := HH.out
          obtain ⟨g1, s1, c1⟩ := H1.out
          have c := HC.out.1
          have c2 := HC.out.2
          have hl32 : (if hasB bs (s - b) = true then bs else putB bs (s - b)).length = 32 := by
            split
            · exact ha.1
            · rw [putB, List.length_set]; exact ha.1
          refine ⟨if hasB bs (s - b) = true then bs else putB bs (s - b), l, r, ⟨by rw [insX, if_neg c, if_neg c2]⟩, ⟨hl32, g1, at_keep c1 l ha.2.2.1 (fun y hy hh => ?_), at_keep c1 r ha.2.2.2 (fun y hy hh => ?_)⟩, ⟨List.nodup_cons.2 ⟨nd.1, nd.2⟩⟩, ⟨hg.2.1, hg.2.2, by omega⟩, ⟨?_⟩, ⟨c1.mono (fun x hx => ?_)⟩, ⟨hsg, fun hh => (List.mem_append.1 hh).elim hsl hsr, fun x hx _ => List.mem_cons_of_mem _ hx⟩⟩
          · rcases List.mem_cons.1 hh with rfl | hh
            · exact nd.1 (List.mem_append_left _ hy)
            · rw [List.mem_singleton.1 hh] at hy; exact hsl hy
          · rcases List.mem_cons.1 hh with rfl | hh
            · exact nd.1 (List.mem_append_right _ hy)
            · rw [List.mem_singleton.1 hh] at hy; exact hsr hy
          · rw [s1, HN2.out, HC2.out, ndX, if_neg c, if_neg c2, inX, if_neg c, if_neg c2, if_pos rfl, Int.add_zero]
          · rcases List.mem_cons.1 hx with rfl | hx
            · exact List.mem_cons_of_mem _ List.mem_cons_self
            · rw [List.mem_singleton.1 hx]; exact List.mem_cons_self
    case rest =>
      obtain ⟨bs', l', r', HI, HA, HN, HGD, HSS, HCH, HNS⟩ := hcut
      clear k1 kl kr hb2
      go_wp2_with fail
      refine (maxH_calls (.node g b bs' l' r' h0) wc HA.out).mono ?_
      rintro e w1 ⟨rfl, rfl⟩
      obtain ⟨x, hx⟩ : ∃ x, x = mH (.node g b bs' l' r' h0) := ⟨_, rfl⟩
      rw [← hx]
      have HX := Aside0.mk hx
      clear hx
      have n1 := nd_free HA.out.2.1 35
      have n2 := nd_h HA.out.2.1 HA.out.1
      go_wp2_with fail
      have ex : wrap64 (x + 1) = mH (.node g b bs' l' r' 0) + 1 := by
        have h1 := mH_sz g b bs' l' r' h0 HGD.out.1 HGD.out.2.1
        have h2 := HGD.out.2.2
        rw [HX.out, show mH (.node g b bs' l' r' 0) = mH (.node g b bs' l' r' h0) from rfl]
        exact Road.w64 _ _ rfl (by omega) (by omega)
      rw [ex, nd_setH HA.out.2.1 HA.out.1]
      obtain ⟨h1, hh1⟩ : ∃ h1, h1 = mH (.node g b bs' l' r' 0) + 1 := ⟨_, rfl⟩
      rw [← hh1]
      have HH1 := Aside0.mk hh1
      clear ex n1 n2 hh1
      have C1 := HCH.out.trans (Chg.row w1 g (cellsN b bs' l'.p r'.p h1)) (fun x h => h) (fun x hx => HNS.out.2.2 x (by rw [List.mem_singleton.1 hx]; exact List.mem_cons_self))
      have C1a := Chg.row w1 g (cellsN b bs' l'.p r'.p h1)
      have q1 := setRow_heap w1 g _ (cellsN b bs' l'.p r'.p h1) _ _ HA.out.2.1
      have nd := List.nodup_cons.1 HN.out
      have A1 : Tr.at (w1.setRow g (cellsN b bs' l'.p r'.p h1)) (.node g b bs' l' r' h1) := ⟨HA.out.1, q1, at_keep C1a l' HA.out.2.2.1 (fun y hy => by simp; rintro rfl; exact nd.1 (List.mem_append_left _ hy)), at_keep C1a r' HA.out.2.2.2 (fun y hy => by simp; rintro rfl; exact nd.1 (List.mem_append_right _ hy))⟩
      have S1 : (w1.setRow g (cellsN b bs' l'.p r'.p h1)).heap[SS]? = _ := (setRow_other _ _ _ _ HNS.out.1).trans HSS.out
      generalize w1.setRow g (cellsN b bs' l'.p r'.p h1) = W1 at C1 A1 S1 ⊢
      have HC1 := Aside0.mk C1
      have HA1 := Aside0.mk A1
      have HS1 := Aside0.mk S1
      clear C1 C1a q1 nd A1 S1
      have G1 : (Tr.node g b bs' l' r' h1).good := ⟨by rw [HH1.out]; rfl, HGD.out.1, HGD.out.2.1⟩
      have Z1 : (Tr.node g b bs' l' r' h1).sz ≤ 20000 := by have := HGD.out.2.2; show l'.sz + r'.sz + 1 ≤ 20000; omega
      refine (balF_calls (.node g b bs' l' r' h1) W1 HA1.out (bF_sz _ G1 Z1)).mono ?_
      rintro e w2 ⟨rfl, rfl⟩
      obtain ⟨d, hd⟩ : ∃ d, d = bF (.node g b bs' l' r' h1) := ⟨_, rfl⟩
      rw [← hd]
      have HD := Aside0.mk hd
      have HG1 := Aside0.mk (And.intro G1 Z1)
      clear hd G1 Z1
      have nl : w2.cell? ⟨g, 33, none⟩ = some (.pointer l'.pp) := nd_l HA1.out.2.1 HA1.out.1
      have nr : w2.cell? ⟨g, 34, none⟩ = some (.pointer r'.pp) := nd_r HA1.out.2.1 HA1.out.1
      have fl := nd_free HA1.out.2.1 33
      have fr := nd_free HA1.out.2.1 34
      by_cases c1 : 1 < d
      · have c1' : decide (1 < d) = true := decide_eq_true c1
        obtain ⟨g1, b1, bs1, lx, rx, k1, hs⟩ := left_of (show (Tr.node g b bs' l' r' h1).good from HG1.out.1) (by rw [← HD.out]; omega)
        have HSH := Aside0.mk hs
        clear hs
        have esp : l'.pp = some ⟨g1, 0, none⟩ := by rw [HSH.out]; rfl
        rw [esp] at nl
        have HESP := Aside0.mk esp
        clear esp
        go_wp2_with fail
        have hbs := balF_calls l' w2 HA1.out.2.2.1 (bF_sz l' HGD.out.1 (by have := HGD.out.2.2; omega))
        rw [show l'.p = .pointer (some ⟨g1, 0, none⟩) by rw [Tr.p, HESP.out]] at hbs
        refine hbs.mono ?_
        clear hbs
        rintro e w3 ⟨rfl, rfl⟩
        obtain ⟨d2, hd2⟩ : ∃ d2, d2 = bF l' := ⟨_, rfl⟩
        rw [← hd2]
        have HD2 := Aside0.mk hd2
        clear hd2
        by_cases c2 : d2 < 0
        · have c2' : decide (d2 < 0) = true := decide_eq_true c2
          obtain ⟨g3, b3, bs3, ly, ry, k3, ht⟩ := right_of (by rw [← HSH.out]; exact HGD.out.1 : (Tr.node g1 b1 bs1 lx rx k1).good) (by rw [← HSH.out, ← HD2.out]; omega)
          have hshape : ∃ g b bs o g2 b2 bs2 i p k2 h, l' = .node g b bs o (.node g2 b2 bs2 i p k2) h := ⟨_, _, _, _, _, _, _, _, _, _, _, by rw [HSH.out, ht]⟩
          have HSHP := Aside0.mk hshape
          clear ht hshape c2
          go_wp2_with fail
          have nd := List.nodup_cons.1 HN.out
          have hrc := rotLt_calls l' w3 HA1.out.2.2.1 (List.nodup_append.1 nd.2).1 (by rw [HSH.out]; have := HGD.out.1; rw [HSH.out] at this; exact ⟨this.2.1, this.2.2⟩) (by have := HGD.out.2.2; omega) HSHP.out
          rw [show l'.p = .pointer (some ⟨g1, 0, none⟩) by rw [Tr.p, HESP.out]] at hrc
          refine hrc.mono ?_
          clear hrc
          rintro e w4 ⟨rfl, a4, c4⟩
          have p4 := rotLt_bl l'
          have hgn : g ∉ l'.bl := fun hh => nd.1 (List.mem_append_left _ hh)
          have q4 : w4.heap[g]? = _ := (c4.keep g (Array.getElem?_eq_some_iff.1 HA1.out.2.1).1 hgn).trans HA1.out.2.1
          have a5 : r'.at w4 := at_keep c4 r' HA1.out.2.2.2 (fun y hy hy2 => (List.nodup_append.1 nd.2).2.2 y hy2 y hy rfl)
          have s4 : w4.heap[SS]? = _ := (c4.keep SS (Array.getElem?_eq_some_iff.1 HS1.out).1 (fun hh => HNS.out.2.1 (List.mem_append_left _ hh))).trans HS1.out
          have C4 := HC1.out.trans c4 (fun x h => h) (fun x hx => HNS.out.2.2 x (List.mem_cons_of_mem _ (List.mem_append_left _ hx)))
          have f4 := nd_free q4 33
          have n4 := nd_l q4 HA.out.1
          have H4 := Aside0.mk (And.intro a4 (And.intro a5 (And.intro q4 (And.intro s4 (And.intro C4 (And.intro p4 hgn))))))
          obtain ⟨g5, b5, bs5, l5, r5, k5, ht5⟩ := rotLt_shape HSHP.out
          have e5 : (rotLt l').pp = some ⟨g5, 0, none⟩ := by rw [ht5]; rfl
          rw [Tr.p, e5]
          have HE5 := Aside0.mk e5
          clear nd a4 a5 q4 s4 c4 C4 p4 hgn ht5 e5 nl nr fl fr
          go_wp2_with fail
          rw [show (Value.pointer (some ⟨g5, 0, none⟩)) = (rotLt l').p by rw [Tr.p, HE5.out], nd_setL H4.out.2.2.1 HA.out.1]
          obtain ⟨a4, a5, q4, s4, C4, p4, hgn⟩ := H4.out
          have c6 := Chg.row w4 g (cellsN b bs' (rotLt l').p r'.p h1)
          have q6 := setRow_heap w4 g _ (cellsN b bs' (rotLt l').p r'.p h1) _ _ q4
          have nd := List.nodup_cons.1 HN.out
          have a6 : (rotLt l').at (w4.setRow g (cellsN b bs' (rotLt l').p r'.p h1)) := at_keep c6 _ a4 (fun y hy => by simp; rintro rfl; exact hgn (p4.subset hy))
          have a7 : r'.at (w4.setRow g (cellsN b bs' (rotLt l').p r'.p h1)) := at_keep c6 _ a5 (fun y hy => by simp; rintro rfl; exact nd.1 (List.mem_append_right _ hy))
          have s6 : (w4.setRow g (cellsN b bs' (rotLt l').p r'.p h1)).heap[SS]? = _ := (setRow_other _ _ _ _ HNS.out.1).trans s4
          have C6 := C4.trans c6 (fun x h => h) (fun x hx => HNS.out.2.2 x (by rw [List.mem_singleton.1 hx]; exact List.mem_cons_self))
          have A6 : Tr.at (w4.setRow g (cellsN b bs' (rotLt l').p r'.p h1)) (.node g b bs' (rotLt l') r' h1) := ⟨HA.out.1, q6, a6, a7⟩
          have N6 : (Tr.bl (.node g b bs' (rotLt l') r' h1)).Nodup := (bl_node rfl p4 (List.Perm.refl _)).nodup_iff.2 HN.out
          have P6 : (Tr.bl (.node g b bs' (rotLt l') r' h1)).Perm (g :: (l'.bl ++ r'.bl)) := bl_node (b := b) (b' := b) (bs := bs') (bs' := bs') (h := h1) (h' := h1) rfl p4 (List.Perm.refl _)
          generalize w4.setRow g (cellsN b bs' (rotLt l').p r'.p h1) = W6 at A6 s6 C6 ⊢
          refine (rotRt_calls (.node g b bs' (rotLt l') r' h1) W6 A6 N6 ⟨rotLt_good _ HGD.out.1, HGD.out.2.1⟩ (by have := HGD.out.2.2; show (rotLt l').sz + r'.sz + 1 ≤ 20000; rw [rotLt_sz]; omega) (by obtain ⟨g9, b9, bs9, l9, r9, k9, hz9⟩ := rotLt_shape HSHP.out; rw [hz9]; exact ⟨_, _, _, _, _, _, _, _, _, _, _, rfl⟩)).mono ?_
          rintro e w7 ⟨rfl, a9, c9⟩
          have EQ : balT g b bs' l' r' = rotRt (.node g b bs' (rotLt l') r' h1) := by
            unfold balT
            simp only
            rw [if_pos (show 1 < l'.ht - r'.ht by have h := HD.out; rw [show bF (.node g b bs' l' r' h1) = l'.ht - r'.ht from rfl] at h; omega), if_pos (show bF l' < 0 by rw [← HD2.out]; exact of_decide_eq_true c2'), ← HH1.out]
          have C9 := C6.trans c9 (fun x h => h) (fun x hx => HNS.out.2.2 x (P6.subset hx))
          have s9 : w7.heap[SS]? = _ := (c9.keep SS (Array.getElem?_eq_some_iff.1 s6).1 (fun hh => (List.mem_cons.1 (P6.subset hh)).elim (fun e => HNS.out.1 e) HNS.out.2.1)).trans s6
          have H9 := Aside0.mk (And.intro EQ (And.intro a9 (And.intro s9 C9)))
          clear H4 a4 a5 q4 s4 C4 p4 hgn c6 q6 nd a6 a7 s6 C6 A6 N6 P6 c9 a9 s9 C9 EQ f4 n4
          go_wp2_with fail
          go_ret
          obtain ⟨EQ, a9, s9, C9⟩ := H9.out
          rw [HI.out, EQ]
          exact ⟨rfl, a9, s9, C9⟩
        · have c2' : decide (d2 < 0) = false := decide_eq_false c2
          go_wp2_with fail
          refine (rotRt_calls (.node g b bs' l' r' h1) w3 HA1.out HN.out ⟨HGD.out.1, HGD.out.2.1⟩ HG1.out.2 (by rw [HSH.out]; exact ⟨_, _, _, _, _, _, _, _, _, _, _, rfl⟩)).mono ?_
          rintro e w7 ⟨rfl, a9, c9⟩
          have EQ : balT g b bs' l' r' = rotRt (.node g b bs' l' r' h1) := by
            unfold balT
            simp only
            rw [if_pos (show 1 < l'.ht - r'.ht by have h := HD.out; rw [show bF (.node g b bs' l' r' h1) = l'.ht - r'.ht from rfl] at h; omega), if_neg (show ¬ bF l' < 0 by rw [← HD2.out]; exact of_decide_eq_false c2'), ← HH1.out]
          have C9 := HC1.out.trans c9 (fun x h => h) (fun x hx => HNS.out.2.2 x hx)
          have s9 : w7.heap[SS]? = _ := (c9.keep SS (Array.getElem?_eq_some_iff.1 HS1.out).1 (fun hh => (List.mem_cons.1 hh).elim (fun e => HNS.out.1 e) HNS.out.2.1)).trans HS1.out
          have H9 := Aside0.mk (And.intro EQ (And.intro a9 (And.intro s9 C9)))
          clear c9 a9 s9 C9 EQ nl nr fl fr c2
          go_wp2_with fail
          go_ret
          obtain ⟨EQ, a9, s9, C9⟩ := H9.out
          rw [HI.out, EQ]
          exact ⟨rfl, a9, s9, C9⟩
      · have c1' : decide (1 < d) = false := decide_eq_false c1
        by_cases c3 : d < -1
        · have c3' : decide (d < -1) = true := decide_eq_true c3
          obtain ⟨g1, b1, bs1, lx, rx, k1, hs⟩ := right_of (show (Tr.node g b bs' l' r' h1).good from HG1.out.1) (by rw [← HD.out]; omega)
          have HSH := Aside0.mk hs
          clear hs
          have esp : r'.pp = some ⟨g1, 0, none⟩ := by rw [HSH.out]; rfl
          rw [esp] at nr
          have HESP := Aside0.mk esp
          clear esp
          go_wp2_with fail
          have hbs := balF_calls r' w2 HA1.out.2.2.2 (bF_sz r' HGD.out.2.1 (by have := HGD.out.2.2; omega))
          rw [show r'.p = .pointer (some ⟨g1, 0, none⟩) by rw [Tr.p, HESP.out]] at hbs
          refine hbs.mono ?_
          clear hbs
          rintro e w3 ⟨rfl, rfl⟩
          obtain ⟨d2, hd2⟩ : ∃ d2, d2 = bF r' := ⟨_, rfl⟩
          rw [← hd2]
          have HD2 := Aside0.mk hd2
          clear hd2
          by_cases c2 : 0 < d2
          · have c2' : decide (0 < d2) = true := decide_eq_true c2
            obtain ⟨g3, b3, bs3, ly, ry, k3, ht⟩ := left_of (by rw [← HSH.out]; exact HGD.out.2.1 : (Tr.node g1 b1 bs1 lx rx k1).good) (by rw [← HSH.out, ← HD2.out]; omega)
            have hshape : ∃ g b bs o g2 b2 bs2 i p k2 h, r' = .node g b bs (.node g2 b2 bs2 p i k2) o h := ⟨_, _, _, _, _, _, _, _, _, _, _, by rw [HSH.out, ht]⟩
            have HSHP := Aside0.mk hshape
            clear ht hshape c2
            go_wp2_with fail
            have nd := List.nodup_cons.1 HN.out
            have hrc := rotRt_calls r' w3 HA1.out.2.2.2 (List.nodup_append.1 nd.2).2.1 (by rw [HSH.out]; have := HGD.out.2.1; rw [HSH.out] at this; exact ⟨this.2.1, this.2.2⟩) (by have := HGD.out.2.2; omega) HSHP.out
            rw [show r'.p = .pointer (some ⟨g1, 0, none⟩) by rw [Tr.p, HESP.out]] at hrc
            refine hrc.mono ?_
            clear hrc
            rintro e w4 ⟨rfl, a4, c4⟩
            have p4 := rotRt_bl r'
            have hgn : g ∉ r'.bl := fun hh => nd.1 (List.mem_append_right _ hh)
            have q4 : w4.heap[g]? = _ := (c4.keep g (Array.getElem?_eq_some_iff.1 HA1.out.2.1).1 hgn).trans HA1.out.2.1
            have a5 : l'.at w4 := at_keep c4 l' HA1.out.2.2.1 (fun y hy hy2 => (List.nodup_append.1 nd.2).2.2 y hy y hy2 rfl)
            have s4 : w4.heap[SS]? = _ := (c4.keep SS (Array.getElem?_eq_some_iff.1 HS1.out).1 (fun hh => HNS.out.2.1 (List.mem_append_right _ hh))).trans HS1.out
            have C4 := HC1.out.trans c4 (fun x h => h) (fun x hx => HNS.out.2.2 x (List.mem_cons_of_mem _ (List.mem_append_right _ hx)))
            have f4 := nd_free q4 34
            have n4 := nd_r q4 HA.out.1
            have H4 := Aside0.mk (And.intro a4 (And.intro a5 (And.intro q4 (And.intro s4 (And.intro C4 (And.intro p4 hgn))))))
            obtain ⟨g5, b5, bs5, l5, r5, k5, ht5⟩ := rotRt_shape HSHP.out
            have e5 : (rotRt r').pp = some ⟨g5, 0, none⟩ := by rw [ht5]; rfl
            rw [Tr.p, e5]
            have HE5 := Aside0.mk e5
            clear nd a4 a5 q4 s4 c4 C4 p4 hgn ht5 e5 nl nr fl fr
            go_wp2_with fail
            rw [show (Value.pointer (some ⟨g5, 0, none⟩)) = (rotRt r').p by rw [Tr.p, HE5.out], nd_setR H4.out.2.2.1 HA.out.1]
            obtain ⟨a4, a5, q4, s4, C4, p4, hgn⟩ := H4.out
            have c6 := Chg.row w4 g (cellsN b bs' l'.p (rotRt r').p h1)
            have q6 := setRow_heap w4 g _ (cellsN b bs' l'.p (rotRt r').p h1) _ _ q4
            have nd := List.nodup_cons.1 HN.out
            have a6 : (rotRt r').at (w4.setRow g (cellsN b bs' l'.p (rotRt r').p h1)) := at_keep c6 _ a4 (fun y hy => by simp; rintro rfl; exact hgn (p4.subset hy))
            have a7 : l'.at (w4.setRow g (cellsN b bs' l'.p (rotRt r').p h1)) := at_keep c6 _ a5 (fun y hy => by simp; rintro rfl; exact nd.1 (List.mem_append_left _ hy))
            have s6 : (w4.setRow g (cellsN b bs' l'.p (rotRt r').p h1)).heap[SS]? = _ := (setRow_other _ _ _ _ HNS.out.1).trans s4
            have C6 := C4.trans c6 (fun x h => h) (fun x hx => HNS.out.2.2 x (by rw [List.mem_singleton.1 hx]; exact List.mem_cons_self))
            have A6 : Tr.at (w4.setRow g (cellsN b bs' l'.p (rotRt r').p h1)) (.node g b bs' l' (rotRt r') h1) := ⟨HA.out.1, q6, a7, a6⟩
            have N6 : (Tr.bl (.node g b bs' l' (rotRt r') h1)).Nodup := (bl_node rfl (List.Perm.refl _) p4).nodup_iff.2 HN.out
            have P6 : (Tr.bl (.node g b bs' l' (rotRt r') h1)).Perm (g :: (l'.bl ++ r'.bl)) := bl_node (b := b) (b' := b) (bs := bs') (bs' := bs') (h := h1) (h' := h1) rfl (List.Perm.refl _) p4
            generalize w4.setRow g (cellsN b bs' l'.p (rotRt r').p h1) = W6 at A6 s6 C6 ⊢
            refine (rotLt_calls (.node g b bs' l' (rotRt r') h1) W6 A6 N6 ⟨HGD.out.1, rotRt_good _ HGD.out.2.1⟩ (by have := HGD.out.2.2; show l'.sz + (rotRt r').sz + 1 ≤ 20000; rw [rotRt_sz]; omega) (by obtain ⟨g9, b9, bs9, l9, r9, k9, hz9⟩ := rotRt_shape HSHP.out; rw [hz9]; exact ⟨_, _, _, _, _, _, _, _, _, _, _, rfl⟩)).mono ?_
            rintro e w7 ⟨rfl, a9, c9⟩
            have EQ : balT g b bs' l' r' = rotLt (.node g b bs' l' (rotRt r') h1) := by
              unfold balT
              simp only
              rw [if_neg (show ¬ 1 < l'.ht - r'.ht by have h := HD.out; rw [show bF (.node g b bs' l' r' h1) = l'.ht - r'.ht from rfl] at h; omega), if_pos (show l'.ht - r'.ht < -1 by have h := HD.out; rw [show bF (.node g b bs' l' r' h1) = l'.ht - r'.ht from rfl] at h; omega), if_pos (show 0 < bF r' by rw [← HD2.out]; exact of_decide_eq_true c2'), ← HH1.out]
            have C9 := C6.trans c9 (fun x h => h) (fun x hx => HNS.out.2.2 x (P6.subset hx))
            have s9 : w7.heap[SS]? = _ := (c9.keep SS (Array.getElem?_eq_some_iff.1 s6).1 (fun hh => (List.mem_cons.1 (P6.subset hh)).elim (fun e => HNS.out.1 e) HNS.out.2.1)).trans s6
            have H9 := Aside0.mk (And.intro EQ (And.intro a9 (And.intro s9 C9)))
            clear H4 a4 a5 q4 s4 C4 p4 hgn c6 q6 nd a6 a7 s6 C6 A6 N6 P6 c9 a9 s9 C9 EQ f4 n4
            go_wp2_with fail
            go_ret
            obtain ⟨EQ, a9, s9, C9⟩ := H9.out
            rw [HI.out, EQ]
            exact ⟨rfl, a9, s9, C9⟩
          · have c2' : decide (0 < d2) = false := decide_eq_false c2
            go_wp2_with fail
            refine (rotLt_calls (.node g b bs' l' r' h1) w3 HA1.out HN.out ⟨HGD.out.1, HGD.out.2.1⟩ HG1.out.2 (by rw [HSH.out]; exact ⟨_, _, _, _, _, _, _, _, _, _, _, rfl⟩)).mono ?_
            rintro e w7 ⟨rfl, a9, c9⟩
            have EQ : balT g b bs' l' r' = rotLt (.node g b bs' l' r' h1) := by
              unfold balT
              simp only
              rw [if_neg (show ¬ 1 < l'.ht - r'.ht by have h := HD.out; rw [show bF (.node g b bs' l' r' h1) = l'.ht - r'.ht from rfl] at h; omega), if_pos (show l'.ht - r'.ht < -1 by have h := HD.out; rw [show bF (.node g b bs' l' r' h1) = l'.ht - r'.ht from rfl] at h; omega), if_neg (show ¬ 0 < bF r' by rw [← HD2.out]; exact of_decide_eq_false c2'), ← HH1.out]
            have C9 := HC1.out.trans c9 (fun x h => h) (fun x hx => HNS.out.2.2 x hx)
            have s9 : w7.heap[SS]? = _ := (c9.keep SS (Array.getElem?_eq_some_iff.1 HS1.out).1 (fun hh => (List.mem_cons.1 hh).elim (fun e => HNS.out.1 e) HNS.out.2.1)).trans HS1.out
            have H9 := Aside0.mk (And.intro EQ (And.intro a9 (And.intro s9 C9)))
            clear c9 a9 s9 C9 EQ nl nr fl fr c2
            go_wp2_with fail
            go_ret
            obtain ⟨EQ, a9, s9, C9⟩ := H9.out
            rw [HI.out, EQ]
            exact ⟨rfl, a9, s9, C9⟩
        · have c3' : decide (d < -1) = false := decide_eq_false c3
          have EQ : balT g b bs' l' r' = .node g b bs' l' r' h1 := by
            unfold balT
            simp only
            have h := HD.out
            rw [show bF (.node g b bs' l' r' h1) = l'.ht - r'.ht from rfl] at h
            rw [if_neg (show ¬ 1 < l'.ht - r'.ht by omega), if_neg (show ¬ l'.ht - r'.ht < -1 by omega), ← HH1.out]
          have H9 := Aside0.mk (And.intro EQ (And.intro HA1.out (And.intro HS1.out HC1.out)))
          clear EQ nl nr fl fr c1 c3
          go_wp2_with fail
          go_ret
          obtain ⟨EQ, a9, s9, C9⟩ := H9.out
          rw [HI.out, EQ]
          exact ⟨rfl, a9, s9, C9⟩
/-- A number put into a node that is there: no turns. -/
def setX (s : Nat) : Tr → Tr
  | .nil => .nil
  | .node g b bs l r h => if s < b then .node g b bs (setX s l) r h else if eB b ≤ s then .node g b bs l (setX s r) h else .node g b (if hasB bs (s - b) = true then bs else putB bs (s - b)) l r h
def addX (n s : Nat) (t : Tr) : Tr := if ndX s t = true then setX s t else insX n s t
/-- The search for s in a tree comes by u. -/
def OnX (s : Nat) (u : Tr) : Tr → Prop
  | .nil => False
  | .node g b bs l r h => .node g b bs l r h = u ∨ (s < b ∧ OnX s u l) ∨ (¬ s < b ∧ eB b ≤ s ∧ OnX s u r)
theorem OnX_left {s : Nat} {g b : Nat} {bs : List Nat} {l r : Tr} {h : Int} (c : s < b) (hl : l ≠ .nil) : ∀ t : Tr, OnX s (.node g b bs l r h) t → OnX s l t
  | .nil, h => h
  | .node g0 b0 bs0 l0 r0 h0, hh => by
    rcases hh with e | ⟨c1, e⟩ | ⟨c1, c2, e⟩
    · cases e
      refine .inr (.inl ⟨c, ?_⟩)
      cases l with
      | nil => exact absurd rfl hl
      | node _ _ _ _ _ _ => exact .inl rfl
    · exact .inr (.inl ⟨c1, OnX_left c hl l0 e⟩)
    · exact .inr (.inr ⟨c1, c2, OnX_left c hl r0 e⟩)
theorem OnX_right {s : Nat} {g b : Nat} {bs : List Nat} {l r : Tr} {h : Int} (c : ¬ s < b) (c2 : eB b ≤ s) (hr : r ≠ .nil) : ∀ t : Tr, OnX s (.node g b bs l r h) t → OnX s r t
  | .nil, h => h
  | .node g0 b0 bs0 l0 r0 h0, hh => by
    rcases hh with e | ⟨c1, e⟩ | ⟨c1, c3, e⟩
    · cases e
      refine .inr (.inr ⟨c, c2, ?_⟩)
      cases r with
      | nil => exact absurd rfl hr
      | node _ _ _ _ _ _ => exact .inl rfl
    · exact .inr (.inl ⟨c1, OnX_right c c2 hr l0 e⟩)
    · exact .inr (.inr ⟨c1, c3, OnX_right c c2 hr r0 e⟩)
theorem OnX_bl {s g b : Nat} {bs : List Nat} {l r : Tr} {h : Int} : ∀ t : Tr, OnX s (.node g b bs l r h) t → g ∈ t.bl
  | .nil, h => h.elim
  | .node g0 b0 bs0 l0 r0 h0, hh => by
    rcases hh with e | ⟨_, e⟩ | ⟨_, _, e⟩
    · cases e; exact List.mem_cons_self
    · exact List.mem_cons_of_mem _ (List.mem_append_left _ (OnX_bl l0 e))
    · exact List.mem_cons_of_mem _ (List.mem_append_right _ (OnX_bl r0 e))
theorem setX_pp (s : Nat) : ∀ t : Tr, (setX s t).pp = t.pp
  | .nil => rfl
  | .node g b bs l r h => by
    unfold setX
    split
    · rfl
    · split <;> rfl
theorem setX_bl (s : Nat) : ∀ t : Tr, (setX s t).bl = t.bl
  | .nil => rfl
  | .node g b bs l r h => by
    have h1 := setX_bl s l
    have h2 := setX_bl s r
    unfold setX
    split
    · simp only [Tr.bl, h1]
    · split
      · simp only [Tr.bl, h2]
      · rfl
theorem setX_at {w w' : World} {SS s g b : Nat} {bs : List Nat} {l r : Tr} {h : Int} (hc : Chg [g, SS] w w') (c1 : ¬ s < b) (c2 : ¬ eB b ≤ s)
    (hg : w'.heap[g]? = some (.cells (cellsN b (if hasB bs (s - b) = true then bs else putB bs (s - b)) l.p r.p h) 88 (0, 0))) :
    ∀ t : Tr, t.at w → t.bl.Nodup → SS ∉ t.bl → OnX s (.node g b bs l r h) t → (setX s t).at w'
  | .nil, _, _, _, ho => ho.elim
  | .node g0 b0 bs0 l0 r0 h0, ha, hnd, hS, ho => by
    have nd := List.nodup_cons.1 hnd
    have nd2 := List.nodup_append.1 nd.2
    have hsl : SS ∉ l0.bl := fun e => hS (List.mem_cons_of_mem _ (List.mem_append_left _ e))
    have hsr : SS ∉ r0.bl := fun e => hS (List.mem_cons_of_mem _ (List.mem_append_right _ e))
    have hsg : g0 ≠ SS := fun e => hS (by rw [← e]; exact List.mem_cons_self)
    rcases ho with e | ⟨d1, e⟩ | ⟨d1, d2, e⟩
    · cases e
      rw [setX, if_neg c1, if_neg c2]
      refine ⟨?_, hg, at_keep hc _ ha.2.2.1 (fun y hy hh => ?_), at_keep hc _ ha.2.2.2 (fun y hy hh => ?_)⟩
      · split
        · exact ha.1
        · rw [putB, List.length_set]; exact ha.1
      · rcases List.mem_cons.1 hh with rfl | hh
        · exact nd.1 (List.mem_append_left _ hy)
        · rw [List.mem_singleton.1 hh] at hy; exact hsl hy
      · rcases List.mem_cons.1 hh with rfl | hh
        · exact nd.1 (List.mem_append_right _ hy)
        · rw [List.mem_singleton.1 hh] at hy; exact hsr hy
    · have hgl := OnX_bl l0 e
      rw [setX, if_pos d1]
      have hne : g0 ≠ g := fun e2 => nd.1 (by rw [e2]; exact List.mem_append_left _ hgl)
      refine ⟨ha.1, ?_, setX_at hc c1 c2 hg l0 ha.2.2.1 nd2.1 hsl e, at_keep hc _ ha.2.2.2 (fun y hy hh => ?_)⟩
      · rw [Tr.p, setX_pp]
        exact (hc.keep g0 (Array.getElem?_eq_some_iff.1 ha.2.1).1 (by simp [hne, hsg])).trans ha.2.1
      · rcases List.mem_cons.1 hh with rfl | hh
        · exact nd2.2.2 _ hgl _ hy rfl
        · rw [List.mem_singleton.1 hh] at hy; exact hsr hy
    · have hgr := OnX_bl r0 e
      rw [setX, if_neg d1, if_pos d2]
      have hne : g0 ≠ g := fun e2 => nd.1 (by rw [e2]; exact List.mem_append_right _ hgr)
      refine ⟨ha.1, ?_, at_keep hc _ ha.2.2.1 (fun y hy hh => ?_), setX_at hc c1 c2 hg r0 ha.2.2.2 nd2.2.1 hsr e⟩
      · have := setX_pp s r0
        rw [show (setX s r0).p = r0.p by rw [Tr.p, this]]
        exact (hc.keep g0 (Array.getElem?_eq_some_iff.1 ha.2.1).1 (by simp [hne, hsg])).trans ha.2.1
      · rcases List.mem_cons.1 hh with rfl | hh
        · exact nd2.2.2 _ hy _ hgr rfl
        · rw [List.mem_singleton.1 hh] at hy; exact hsl hy
set_option maxHeartbeats 16000000 in
set_option maxRecDepth 100000 in
theorem InsertX_calls (t : Tr) (SS : Nat) (sz nn : Int) (s : Nat) (w : World) (ha : t.at w) (hnd : t.bl.Nodup) (hg : t.good) (hsz : t.sz ≤ 10000) (hf : fitX t) (hS : w.heap[SS]? = some (.cells (ssC t.p sz nn false) 84 (0, 0))) (hSS : SS ∉ t.bl) (hs : s < 18446744073709551616) (hnn : 0 ≤ nn ∧ nn ≤ 1000000) (hz : 0 ≤ sz ∧ sz ≤ 1000000) :
    Calls Tryd.prog 51 #[.pointer (some ⟨SS, 0, none⟩), .int .u64 (s : Int)] w fun e w' => e = .returned (.tuple #[]) ∧ (addX w.heap.size s t).at w' ∧
      w'.heap[SS]? = some (.cells (ssC (addX w.heap.size s t).p (sz + if inX s t = true then 0 else 1) (nn + if ndX s t = true then 0 else 1) false) 84 (0, 0)) ∧ Chg (SS :: t.bl) w w' := by
  have c0 : w.cell? ⟨SS, 0, none⟩ = some (.pointer t.pp) := (cell_of_row w SS 0 _ _ _ hS).trans rfl
  obtain ⟨q, hq⟩ : ∃ z, z = inX s t := ⟨_, rfl⟩
  obtain ⟨qn, hqn⟩ : ∃ z, z = ndX s t := ⟨_, rfl⟩
  obtain ⟨sz2, hsz2⟩ : ∃ z : Int, z = sz + if inX s t = true then 0 else 1 := ⟨_, rfl⟩
  obtain ⟨nn2, hnn2⟩ : ∃ z : Int, z = nn + if ndX s t = true then 0 else 1 := ⟨_, rfl⟩
  rw [← hsz2, ← hnn2]
  have HQ := Aside0.mk (And.intro hq (And.intro hqn (And.intro hsz2 hnn2)))
  have HA := Aside0.mk (And.intro ha hf)
  have HT := Aside0.mk (And.intro hnd (And.intro hg (And.intro hsz (And.intro hS hSS))))
  have HS := Aside0.mk (And.intro hs (And.intro hnn hz))
  clear ha hf hS hs hq hqn hsz2 hnn2 hnd hg hsz hSS hnn hz
  go_enter Tryd.func51, Tryd.ntmps51
  go_wp2_with fail
  go_loopg [4] (t.sz + 1) (fun kq v4 w' => ∃ u : Tr, v4 = .pointer u.pp ∧ Aside0 (u.at w ∧ fitX u) ∧ Aside0 (inX s u = q ∧ ndX s u = qn) ∧ Aside0 (u = .nil ∨ OnX s u t) ∧ Aside0 (u.sz < kq) ∧ w' = w)
  case atStart =>
    refine ⟨t, rfl, HA, ⟨HQ.out.1.symm, HQ.out.2.1.symm⟩, ⟨?_⟩, ⟨Nat.lt_succ_self _⟩, rfl⟩
    cases t with
    | nil => exact .inl rfl
    | node _ _ _ _ _ _ => exact .inr (.inl rfl)
  case round =>
    obtain ⟨u, rfl, HU, HI, HON, HK, hwr⟩ := hrel
    subst hwr
    cases gk with
    | zero => exact absurd HK.out (by omega)
    | succ k1 =>
    cases u with
    | nil =>
      rw [show (Tr.nil).pp = none from rfl]
      go_wp2_with fail
      refine start_ (n := 16) (S := fun w' => w'.cell? ⟨SS, 0, none⟩ = some (.pointer t.pp)) (ds := [15]) #[false, false, false, false, false, false, false, false, false, false, false, false, false, false, false, false] (by kernel_rfl) rfl rfl c0 (fun hHeld => ?_)
      refine pure_ (i := 0) (N := some 52) (v := ?_) (a' := ?_) #[true, false, false, false, false, false, false, false, false, false, false, false, false, false, false, false] rfl rfl (by kernel_rfl) (fun _ _ _ h => h) (Or.inl ⟨by rfl, ?_⟩) ?_ ?_
      rotate_left
      · intro w'
        go_simp
        with_reducible rfl
      rotate_left
      · simp only [Act.put, List.setIfInBounds_toArray, List.set_cons_zero, List.set_cons_succ, i64_w, i32_w]
        rfl
      refine pure_ (i := 1) (N := some 53) (v := ?_) (a' := ?_) #[true, true, false, false, false, false, false, false, false, false, false, false, false, false, false, false] rfl rfl (by kernel_rfl) (fun _ _ _ h => h) (Or.inl ⟨by rfl, ?_⟩) ?_ ?_
      rotate_left
      · intro w'
        go_simp
        with_reducible rfl
      rotate_left
      · simp only [Act.put, List.setIfInBounds_toArray, List.set_cons_zero, List.set_cons_succ, i64_w, i32_w]
        rfl
      refine pure_ (i := 2) (N := some 54) (v := ?_) (a' := ?_) #[true, true, true, false, false, false, false, false, false, false, false, false, false, false, false, false] rfl rfl (by kernel_rfl) (fun _ _ _ h => h) (Or.inl ⟨by rfl, ?_⟩) ?_ ?_
      rotate_left
      · intro w'
        go_simp
        with_reducible rfl
      rotate_left
      · simp only [Act.put, List.setIfInBounds_toArray, List.set_cons_zero, List.set_cons_succ, i64_w, i32_w]
        rfl
      refine pure_ (i := 3) (N := some 55) (v := ?_) (a' := ?_) #[true, true, true, true, false, false, false, false, false, false, false, false, false, false, false, false] rfl rfl (by kernel_rfl) (fun _ _ _ h => h) (Or.inl ⟨by rfl, ?_⟩) ?_ ?_
      rotate_left
      · intro w'
        go_simp
        with_reducible rfl
      rotate_left
      · simp only [Act.put, List.setIfInBounds_toArray, List.set_cons_zero, List.set_cons_succ, i64_w, i32_w]
        rfl
      refine take_ (i := 4) (N := some 56) (v := ?_) (a' := ?_) #[true, true, true, true, true, false, false, false, false, false, false, false, false, false, false, false] rfl rfl (by kernel_rfl) (fun _ _ _ h => h) (Or.inl ⟨by rfl, ?_⟩) hHeld ?_ ?_
      rotate_left
      · intro w' hS'
        go_simp
        with_reducible rfl
      rotate_left
      · simp only [Act.put, List.setIfInBounds_toArray, List.set_cons_zero, List.set_cons_succ, i64_w, i32_w]
        rfl
      refine pure_ (i := 5) (N := some 57) (v := ?_) (a' := ?_) #[true, true, true, true, true, true, false, false, false, false, false, false, false, false, false, false] rfl rfl (by kernel_rfl) (fun _ _ _ h => h) (Or.inl ⟨by rfl, ?_⟩) ?_ ?_
      rotate_left
      · intro w'
        go_simp
        with_reducible rfl
      rotate_left
      · simp only [Act.put, List.setIfInBounds_toArray, List.set_cons_zero, List.set_cons_succ, i64_w, i32_w]
        rfl
      refine pure_ (i := 6) (N := some 58) (v := ?_) (a' := ?_) #[true, true, true, true, true, true, true, false, false, false, false, false, false, false, false, false] rfl rfl (by kernel_rfl) (fun _ _ _ h => h) (Or.inl ⟨by rfl, ?_⟩) ?_ ?_
      rotate_left
      · intro w'
        go_simp
        with_reducible rfl
      rotate_left
      · simp only [Act.put, List.setIfInBounds_toArray, List.set_cons_zero, List.set_cons_succ, i64_w, i32_w]
        rfl
      refine pure_ (i := 7) (N := some 59) (v := ?_) (a' := ?_) #[true, true, true, true, true, true, true, true, false, false, false, false, false, false, false, false] rfl rfl (by kernel_rfl) (fun _ _ _ h => h) (Or.inl ⟨by rfl, ?_⟩) ?_ ?_
      rotate_left
      · intro w'
        go_simp
        with_reducible rfl
      rotate_left
      · simp only [Act.put, List.setIfInBounds_toArray, List.set_cons_zero, List.set_cons_succ, i64_w, i32_w]
        rfl
      refine pure_ (i := 8) (N := some 60) (v := ?_) (a' := ?_) #[true, true, true, true, true, true, true, true, true, false, false, false, false, false, false, false] rfl rfl (by kernel_rfl) (fun _ _ _ h => h) (Or.inl ⟨by rfl, ?_⟩) ?_ ?_
      rotate_left
      · intro w'
        go_simp
        with_reducible rfl
      rotate_left
      · simp only [Act.put, List.setIfInBounds_toArray, List.set_cons_zero, List.set_cons_succ, i64_w, i32_w]
        rfl
      refine pure_ (i := 9) (N := some 61) (v := ?_) (a' := ?_) #[true, true, true, true, true, true, true, true, true, true, false, false, false, false, false, false] rfl rfl (by kernel_rfl) (fun _ _ _ h => h) (Or.inl ⟨by rfl, ?_⟩) ?_ ?_
      rotate_left
      · intro w'
        go_simp
        with_reducible rfl
      rotate_left
      · simp only [Act.put, List.setIfInBounds_toArray, List.set_cons_zero, List.set_cons_succ, i64_w, i32_w]
        rfl
      refine pure_ (i := 10) (N := some 62) (v := ?_) (a' := ?_) #[true, true, true, true, true, true, true, true, true, true, true, false, false, false, false, false] rfl rfl (by kernel_rfl) (fun _ _ _ h => h) (Or.inl ⟨by rfl, ?_⟩) ?_ ?_
      rotate_left
      · intro w'
        go_simp
        with_reducible rfl
      rotate_left
      · simp only [Act.put, List.setIfInBounds_toArray, List.set_cons_zero, List.set_cons_succ, i64_w, i32_w]
        rfl
      refine pure_ (i := 11) (N := some 63) (v := ?_) (a' := ?_) #[true, true, true, true, true, true, true, true, true, true, true, true, false, false, false, false] rfl rfl (by kernel_rfl) (fun _ _ _ h => h) (Or.inl ⟨by rfl, ?_⟩) ?_ ?_
      rotate_left
      · intro w'
        go_simp
        with_reducible rfl
      rotate_left
      · simp only [Act.put, List.setIfInBounds_toArray, List.set_cons_zero, List.set_cons_succ, i64_w, i32_w]
        rfl
      refine one_ (i := 12) (N := some 64) #[true, true, true, true, true, true, true, true, true, true, true, true, true, false, false, false] rfl rfl (by kernel_rfl) (by decide) (fun K hK => ?_)
      refine goes_ Tryd.func71 (by kernel_rfl) rfl #[.pointer t.pp, .int .u64 (s : Int), .pointer (some ⟨SS, 3, none⟩), .pointer (some ⟨SS, 2, none⟩)] (by rfl) rfl rfl (by simp only [List.map_toArray, List.map_cons, List.map_nil]; rfl) ?_
      refine (insertX_calls s SS t.p sz nn false HS.out.1 HS.out.2.1 t wr.drew (at_keep (Chg_drew wr) t HA.out.1 (by simp)) HT.out.1 HT.out.2.1 HT.out.2.2.1 HA.out.2 HT.out.2.2.2.1 HT.out.2.2.2.2).mono ?_
      rintro e w4 ⟨rfl, a4, s4, c4⟩
      refine ⟨_, rfl, ?_⟩
      have k4 : w4.cell? ⟨SS, 0, none⟩ = some (.pointer t.pp) := (cell_of_row w4 SS 0 _ _ _ s4).trans rfl
      refine hK.out _ _ k4 (fun hHeld => ?_)
      clear hK K
      refine norm_ (a' := ?_) ?_ ?_
      rotate_left
      · show Act.put _ (some 64) _ = _
        simp only [Act.put, List.setIfInBounds_toArray, List.set_cons_zero, List.set_cons_succ, i64_w, i32_w]
        rfl
      refine pure_ (i := 13) (N := some 65) (v := ?_) (a' := ?_) #[true, true, true, true, true, true, true, true, true, true, true, true, true, true, false, false] rfl rfl (by kernel_rfl) (fun _ _ _ h => h) (Or.inl ⟨by rfl, ?_⟩) ?_ ?_
      rotate_left
      · intro w'
        go_simp
        with_reducible rfl
      rotate_left
      · simp only [Act.put, List.setIfInBounds_toArray, List.set_cons_zero, List.set_cons_succ, i64_w, i32_w]
        rfl
      refine pure_ (i := 14) (N := some 66) (v := ?_) (a' := ?_) #[true, true, true, true, true, true, true, true, true, true, true, true, true, true, true, false] rfl rfl (by kernel_rfl) (fun _ _ _ h => h) (Or.inl ⟨by rfl, ?_⟩) ?_ ?_
      rotate_left
      · intro w'
        go_simp
        with_reducible rfl
      rotate_left
      · simp only [Act.put, List.setIfInBounds_toArray, List.set_cons_zero, List.set_cons_succ, i64_w, i32_w]
        rfl
      have f4 : w4.frozen? ⟨SS, 0, none⟩ = false := by simp [World.frozen?, s4]
      refine last_ (i := 15) (N := none) #[true, true, true, true, true, true, true, true, true, true, true, true, true, true, true, true] rfl rfl (by kernel_rfl) (by decide) (fun K hK => ?_)
      refine skip_ (w1 := ?_) (by rfl) rfl ?_ ?_
      rotate_left
      · go_simp
        rfl
      refine hK.out _ _ ?_
      clear hK K
      refine done_ (by kernel_rfl) ?_
      have hI : q = false ∧ qn = false := ⟨HI.out.1.symm, HI.out.2.symm⟩
      obtain ⟨rfl, rfl⟩ := hI
      have hs2 : sz2 = sz + 1 := by have h1 := HQ.out.2.2.1; rw [← HQ.out.1, if_neg (by decide)] at h1; omega
      have s5 : w4.heap[SS]? = some (.cells (ssC t.p sz nn2 true) 84 (0, 0)) := by
        have hn2 : nn2 = nn + 1 := by have h1 := HQ.out.2.2.2; rw [← HQ.out.2.1, if_neg (by decide)] at h1; omega
        rw [s4, ← HQ.out.1, ← HQ.out.2.1, hn2]
        rfl
      have hAD : addX wr.heap.size s t = insX wr.heap.size s t := by rw [addX, ← HQ.out.2.1, if_neg (by decide)]
      have ew : wrap64 (sz + 1) = sz2 := by rw [hs2]; exact Road.w64 _ _ rfl (by have := HS.out; omega) (by have := HS.out; omega)
      obtain ⟨T, hT⟩ : ∃ T, T = insX wr.heap.size s t := ⟨_, rfl⟩
      have hTbl : ∀ x ∈ T.bl, x ∈ t.bl ∨ x = wr.heap.size := by rw [hT]; exact insX_sub _ _ _
      rw [← hT] at hAD
      have HAD := Aside0.mk hAD
      replace a4 : T.at w4 := by rw [hT]; exact a4
      have E1 : w4.setCell ⟨SS, 0, none⟩ (.pointer T.pp) = w4.setRow SS (ssC T.p sz nn2 true) := setCell_eq_setRow w4 SS 0 _ _ _ _ s5
      have hSlt : SS < wr.heap.size := (Array.getElem?_eq_some_iff.1 HT.out.2.2.2.1).1
      have hST : SS ∉ T.bl := fun hh => (hTbl SS hh).elim HT.out.2.2.2.2 (fun e => by omega)
      rw [show (insX wr.heap.size s t).pp = T.pp by rw [hT], E1]
      have s6 := setRow_heap w4 SS _ (ssC T.p sz nn2 true) _ _ s5
      have a6 : T.at (w4.setRow SS (ssC T.p sz nn2 true)) := at_keep (Chg.row w4 SS _) _ a4 (fun y hy hh => hST (by rw [← List.mem_singleton.1 hh]; exact hy))
      have c4' : Chg (SS :: t.bl) wr w4 := (Chg_drew wr).trans c4 (by simp) (fun x hx _ => hx)
      have c6 : Chg (SS :: t.bl) wr (w4.setRow SS (ssC T.p sz nn2 true)) := c4'.trans (Chg.row w4 SS _) (fun x h => h) (fun x hx _ => by rw [List.mem_singleton.1 hx]; exact List.mem_cons_self)
      generalize w4.setRow SS (ssC T.p sz nn2 true) = w6 at s6 a6 c6 ⊢
      have H6 := Aside0.mk (And.intro s6 (And.intro a6 (And.intro c6 (And.intro ew (And.intro hST hs2)))))
      have k3 : w6.cell? ⟨SS, 3, none⟩ = some (.bool true) := (cell_of_row w6 SS 3 _ _ _ s6).trans rfl
      have k1' : w6.cell? ⟨SS, 1, none⟩ = some (.int .i64 sz) := (cell_of_row w6 SS 1 _ _ _ s6).trans rfl
      have f3 : w6.frozen? ⟨SS, 3, none⟩ = false := by simp [World.frozen?, s6]
      have f1 : w6.frozen? ⟨SS, 1, none⟩ = false := by simp [World.frozen?, s6]
      clear s4 s5 hAD hs2 ew a4 E1 hSlt hST s6 a6 c6 hT hTbl c4 c4' k4 f4 c0
      try clear hHeld
      go_wp2_with fail
      go_end0
      obtain ⟨s6, a6, c6, ew, hST, hs2⟩ := H6.out
      have E1 := setCell_eq_setRow w6 SS 3 _ 84 (0, 0) (.bool false) s6
      have g5 := setRow_heap w6 SS _ ((ssC T.p sz nn2 true).setIfInBounds 3 (.bool false)) _ _ s6
      have E2 := setCell_eq_setRow (w6.setRow SS ((ssC T.p sz nn2 true).setIfInBounds 3 (.bool false))) SS 1 _ 84 (0, 0) (.int .i64 sz2) g5
      rw [ew, E1, E2, setRow_setRow, HAD.out]
      refine ⟨rfl, at_keep (Chg.row w6 SS _) _ a6 (fun y hy hh => hST (by rw [← List.mem_singleton.1 hh]; exact hy)), ?_, c6.trans (Chg.row w6 SS _) (fun x hx => hx) (fun x hx _ => by rw [List.mem_singleton.1 hx]; exact List.mem_cons_self)⟩
      rw [setRow_heap _ _ _ _ _ _ s6]
      rfl
    | node g b bs l r h0 =>
      rw [show (Tr.node g b bs l r h0).pp = some ⟨g, 0, none⟩ from rfl]
      have q1 := nd_base HU.out.1.2.1
      have kl : wr.cell? ⟨g, 33, none⟩ = some (.pointer l.pp) := nd_l HU.out.1.2.1 HU.out.1.1
      have kr : wr.cell? ⟨g, 34, none⟩ = some (.pointer r.pp) := nd_r HU.out.1.2.1 HU.out.1.1
      obtain ⟨b2, hbb⟩ : ∃ b2, b2 = eB b := ⟨_, rfl⟩
      have hb2 : IntKind.u64.wrap ((b : Int) + 2048) = (b2 : Int) := by rw [hbb]; exact wrap_eB b
      have HBB := Aside0.mk hbb
      have hkz : l.sz + r.sz + 1 < k1 + 1 := HK.out
      have HKZ := Aside0.mk hkz
      have hon : OnX s (.node g b bs l r h0) t := HON.out.resolve_left (by simp)
      have HON2 := Aside0.mk hon
      clear hbb hkz hon
      by_cases c : s < b
      · have c1 : decide ((s : Int) < (b : Int)) = true := decide_eq_true (by omega)
        have c2 : decide (s < b) = true := decide_eq_true c
        have HI2 := Aside0.mk (show inX s l = q ∧ ndX s l = qn by have := HI.out; rwa [inX, ndX, if_pos c, if_pos c] at this)
        have HO2 := Aside0.mk (show l = .nil ∨ OnX s l t from (Classical.em (l = .nil)).imp_right (fun hl => OnX_left c hl t HON2.out))
        clear c
        go_wp2_with fail
        go_roundg k1
        case measure => omega
        case rel => exact ⟨l, rfl, ⟨HU.out.1.2.2.1, HU.out.2.2.2.1⟩, HI2, HO2, ⟨by have := HKZ.out; omega⟩, rfl⟩
      · have c1 : decide ((s : Int) < (b : Int)) = false := decide_eq_false (by omega)
        have c2 : decide (s < b) = false := decide_eq_false c
        by_cases d : b2 ≤ s
        · have d1 : decide ((b2 : Int) ≤ (s : Int)) = true := decide_eq_true (by omega)
          have d2 : decide (b2 ≤ s) = true := decide_eq_true d
          have d3 : eB b ≤ s := by have := HBB.out; omega
          have HI2 := Aside0.mk (show inX s r = q ∧ ndX s r = qn by have := HI.out; rwa [inX, ndX, if_neg c, if_pos d3, if_neg c, if_pos d3] at this)
          have HO2 := Aside0.mk (show r = .nil ∨ OnX s r t from (Classical.em (r = .nil)).imp_right (fun hl => OnX_right c d3 hl t HON2.out))
          clear c d d3
          go_wp2_with fail
          go_roundg k1
          case measure => omega
          case rel => exact ⟨r, rfl, ⟨HU.out.1.2.2.2, HU.out.2.2.2.2⟩, HI2, HO2, ⟨by have := HKZ.out; omega⟩, rfl⟩
        · have d1 : decide ((b2 : Int) ≤ (s : Int)) = false := decide_eq_false (by omega)
          have d2 : decide (b2 ≤ s) = false := decide_eq_false d
          have d3 : ¬ eB b ≤ s := by have := HBB.out; omega
          have hI2 : q = hasB bs (s - b) ∧ qn = true := by have := HI.out; rw [inX, ndX, if_neg c, if_neg d3, if_neg c, if_neg d3] at this; exact ⟨this.1.symm, this.2.symm⟩
          have HI2 := Aside0.mk (And.intro hI2 (And.intro c d3))
          have hgS : g ≠ SS := fun e => HT.out.2.2.2.2 (by rw [← e]; exact OnX_bl t HON2.out)
          have HGS := Aside0.mk hgS
          clear c d hI2 d3 hgS
          go_wp2_with fail
          refine (set_calls g b bs l.p r.p h0 SS t.p sz nn false s wr HU.out.1.1 HU.out.1.2.1 HT.out.2.2.2.1 HGS.out (by have := HI2.out.2.1; omega) (by have := HI2.out.2.2; have := eB_le b; omega) (by have := HS.out; omega) HU.out.2.2.1 q HI2.out.1.1).mono ?_
          rintro e w4 ⟨rfl, g4, s4, c4⟩
          have HA4 := Aside0.mk (setX_at c4 HI2.out.2.1 HI2.out.2.2 (by rw [← HI2.out.1.1]; exact g4) t HA.out.1 HT.out.1 HT.out.2.2.2.2 HON2.out)
          have H4 := Aside0.mk (And.intro s4 c4)
          have hA : addX wr.heap.size s t = setX s t := by rw [addX, ← HQ.out.2.1, HI2.out.1.2, if_pos rfl]
          have HAD := Aside0.mk hA
          have hnz : nn2 = nn := by have h1 := HQ.out.2.2.2; rw [← HQ.out.2.1, HI2.out.1.2, if_pos rfl] at h1; omega
          have HNZ := Aside0.mk hnz
          clear g4 s4 c4 hA hnz
          cases q with
          | true =>
            have k3 : w4.cell? ⟨SS, 3, none⟩ = some (.bool false) := (cell_of_row w4 SS 3 _ _ _ H4.out.1).trans rfl
            go_wp2_with fail
            refine bodyPost_ret (results_none rfl _ _ _) rfl ?_
            obtain ⟨s4, c4⟩ := H4.out
            have hs2 : sz2 = sz := by have h1 := HQ.out.2.2.1; rw [← HQ.out.1, if_pos rfl] at h1; omega
            rw [HAD.out, hs2, HNZ.out]
            refine ⟨rfl, HA4.out, ?_, c4.mono (fun x hx => ?_)⟩
            · rw [Tr.p, setX_pp]; exact s4
            · rcases List.mem_cons.1 hx with rfl | hx
              · exact List.mem_cons_of_mem _ (OnX_bl t HON2.out)
              · rw [List.mem_singleton.1 hx]; exact List.mem_cons_self
          | false =>
            have k3 : w4.cell? ⟨SS, 3, none⟩ = some (.bool true) := (cell_of_row w4 SS 3 _ _ _ H4.out.1).trans rfl
            have k1' : w4.cell? ⟨SS, 1, none⟩ = some (.int .i64 sz) := (cell_of_row w4 SS 1 _ _ _ H4.out.1).trans rfl
            have f3 : w4.frozen? ⟨SS, 3, none⟩ = false := by simp [World.frozen?, H4.out.1]
            have f1 : w4.frozen? ⟨SS, 1, none⟩ = false := by simp [World.frozen?, H4.out.1]
            go_wp2_with fail
            refine bodyPost_ret (results_none rfl _ _ _) rfl ?_
            obtain ⟨s4, c4⟩ := H4.out
            have hs2 : sz2 = sz + 1 := by have h1 := HQ.out.2.2.1; rw [← HQ.out.1, if_neg (by decide)] at h1; omega
            have ew : wrap64 (sz + 1) = sz2 := by rw [hs2]; exact Road.w64 _ _ rfl (by have := HS.out; omega) (by have := HS.out; omega)
            rw [HAD.out, HNZ.out, ew]
            have E1 := setCell_eq_setRow w4 SS 3 _ 84 (0, 0) (.bool false) s4
            have g5 := setRow_heap w4 SS _ ((ssC t.p sz nn (if false = true then false else true)).setIfInBounds 3 (.bool false)) _ _ s4
            have E2 := setCell_eq_setRow (w4.setRow SS ((ssC t.p sz nn (if false = true then false else true)).setIfInBounds 3 (.bool false))) SS 1 _ 84 (0, 0) (.int .i64 sz2) g5
            rw [E1, E2, setRow_setRow]
            have hgn : SS ∉ (setX s t).bl := by
              rw [show (setX s t).bl = t.bl from setX_bl s t]
              exact HT.out.2.2.2.2
            refine ⟨rfl, at_keep (Chg.row w4 SS _) _ HA4.out (fun y hy hh => hgn (by rw [← List.mem_singleton.1 hh]; exact hy)), ?_, c4.trans (Chg.row w4 SS _) (fun x hx => ?_) (fun x hx _ => by rw [List.mem_singleton.1 hx]; exact List.mem_cons_self)⟩
            · rw [setRow_heap _ _ _ _ _ _ s4, show (setX s t).p = .pointer t.pp by rw [Tr.p, setX_pp]]
              rfl
            · rcases List.mem_cons.1 hx with rfl | hx
              · exact List.mem_cons_of_mem _ (OnX_bl t HON2.out)
              · rw [List.mem_singleton.1 hx]; exact List.mem_cons_self
def numsX : Tr → List Nat
  | .nil => []
  | .node _ b bs l r _ => numsX l ++ (ownW b bs ++ numsX r)
set_option maxHeartbeats 16000000 in
set_option maxRecDepth 100000 in
theorem iterX_calls (N base : Nat) (G : List Nat) (I : List Nat → World → Prop) (go : List Nat → Nat → Bool) (Bo : Nat)
    (hF : ∀ (L : List Nat) (n : Nat) (w : World), I L w → L.length < N → Calls Tryd.prog 53 #[.int .u64 (n : Int), .pointer (some ⟨Bo, 0, none⟩)] w fun e w' => e = .returned (.bool (go L n)) ∧ I (L ++ [n]) w' ∧ Low base G w w')
    (hgT : 3 < base ∧ 3 ∉ G) : ∀ (t : Tr) (L : List Nat) (w : World), t.at w → fitX t → I L w → TabAt 3 Lib.deBruijn64tab w → (∀ x ∈ t.bl, x < base ∧ x ∉ G) → L.length + (numsX t).length ≤ N →
    Calls Tryd.prog 49 #[t.p, .func (.func 53) #[] #[.pointer (some ⟨Bo, 0, none⟩)]] w fun e w' => e = .returned (.bool (runL go L (numsX t)).2) ∧ I (runL go L (numsX t)).1 w' ∧ Low base G w w' := by
  intro t
  induction t with
  | nil =>
    intro L w ha hf hI hT hd hN
    show Calls Tryd.prog 49 #[.pointer none, .func (.func 53) #[] #[.pointer (some ⟨Bo, 0, none⟩)]] w fun e w' => e = .returned (.bool true) ∧ I L w' ∧ Low base G w w'
    have HI := Aside0.mk hI
    clear ha hf hI hT hd hF hgT hN
    go_enter Tryd.func49, Tryd.ntmps49
    go_wp2_with fail
    go_ret
    exact ⟨rfl, HI.out, Low.refl _ _ _⟩
  | node g b bs l r h0 ihl ihr =>
    intro L w ha hf hI hT hd hN
    show Calls Tryd.prog 49 #[.pointer (some ⟨g, 0, none⟩), .func (.func 53) #[] #[.pointer (some ⟨Bo, 0, none⟩)]] w _
    obtain ⟨RB, hRB⟩ : ∃ x, x = runL go L (numsX (Tr.node g b bs l r h0)) := ⟨_, rfl⟩
    rw [← hRB]
    have kl : w.cell? ⟨g, 33, none⟩ = some (.pointer l.pp) := nd_l ha.2.1 ha.1
    have hdl : ∀ x ∈ l.bl, x < base ∧ x ∉ G := fun x hx => hd x (List.mem_cons_of_mem _ (List.mem_append_left _ hx))
    have hdr : ∀ x ∈ r.bl, x < base ∧ x ∉ G := fun x hx => hd x (List.mem_cons_of_mem _ (List.mem_append_right _ hx))
    have hdg : g < base ∧ g ∉ G := hd g List.mem_cons_self
    have HH := Aside0.mk (And.intro ha (And.intro hf (And.intro hT (And.intro hdl (And.intro hdr hdg)))))
    have hN' : L.length + ((numsX l).length + ((ownW b bs).length + (numsX r).length)) ≤ N := by rw [numsX, List.length_append, List.length_append] at hN; exact hN
    have HR := Aside0.mk (And.intro hRB hgT)
    have HN := Aside0.mk hN'
    have HFF := Aside0.mk hF
    have HI := Aside0.mk hI
    clear ha hf hI hT hd hdl hdr hdg hRB hgT hF hN hN'
    go_enter Tryd.func49, Tryd.ntmps49
    go_wp2_with fail
    refine (ihl L w HH.out.1.2.2.1 HH.out.2.1.2.2.1 HI.out HH.out.2.2.1 HH.out.2.2.2.1 (by have := HN.out; omega)).mono ?_
    rintro e w1 ⟨rfl, i1, l1⟩
    obtain ⟨q, hq⟩ : ∃ q, q = (runL go L (numsX l)).2 := ⟨_, rfl⟩
    obtain ⟨L1, hL1⟩ : ∃ q, q = (runL go L (numsX l)).1 := ⟨_, rfl⟩
    rw [← hL1] at i1
    rw [← hq]
    have H1 := Aside0.mk (And.intro i1 (And.intro l1 (And.intro hq hL1)))
    clear i1 l1 hq hL1 kl ihl HI
    cases q with
    | false =>
      go_wp2_with fail
      go_ret
      obtain ⟨i1, l1, hq, hL1⟩ := H1.out
      have e : RB = runL go L (numsX l) := by rw [HR.out.1, numsX, runL_append, if_neg (by rw [← hq]; simp)]
      rw [e, ← hq, ← hL1]
      exact ⟨rfl, i1, l1⟩
    | true =>
      have e1 : RB = runL go L1 (ownW (b + 64 * 0) (bs.drop 0) ++ (numsX r)) := by
        rw [HR.out.1, numsX, runL_append, if_pos H1.out.2.2.1.symm, ← H1.out.2.2.2]
        rfl
      have a1 : Tr.at w1 (Tr.node g b bs l r h0) := at_low H1.out.2.1 (Tr.node g b bs l r h0) HH.out.1 (fun x hx => (List.mem_cons.1 hx).elim (fun e => e ▸ HH.out.2.2.2.2.2) (fun e => (List.mem_append.1 e).elim (HH.out.2.2.2.1 x) (HH.out.2.2.2.2.1 x)))
      have hN1 : L1.length + (ownW (b + 64 * 0) (bs.drop 0) ++ (numsX r)).length ≤ N := by
        rw [H1.out.2.2.2, runL_full go (numsX l) L H1.out.2.2.1.symm, List.length_append, List.length_append]
        have := HN.out
        show L.length + (numsX l).length + ((ownW b bs).length + (numsX r).length) ≤ N
        omega
      have HE1 := Aside0.mk (And.intro e1 (And.intro a1 hN1))
      obtain ⟨LL, hLL⟩ : ∃ LL, LL = bs.map (fun z : Nat => Value.int .u64 (z : Int)) := ⟨_, rfl⟩
      have HRG := Aside0.mk (show w1.rangeAt g 1 LL by rw [hLL]; exact range_bits a1.1 a1.2.1)
      have HLL := Aside0.mk (show (Tryd.prog.info? 86).map (·.size) = some LL.length by rw [hLL, List.length_map, a1.1]; kernel_rfl)
      have HL2 := Aside0.mk hLL
      clear e1 a1 hLL hN1
      go_wp2_with (first | ((with_reducible refine gate_dst (N := 24) rfl ?_); refine wpList_load_mid rfl 86 (.tmp 23) rfl g 1 rfl LL _ HRG.out Tryd.underlying86 (by rfl) HLL.out ?_))
      go_loopw [25] (fun v25 wx => ∃ (k : Nat) (L2 : List Nat), v25 = .int .i64 (k : Int) ∧ Aside0 (k ≤ 32) ∧ Aside0 (RB = runL go L2 (ownW (b + 64 * k) (bs.drop k) ++ (numsX r)) ∧ L2.length + (ownW (b + 64 * k) (bs.drop k) ++ (numsX r)).length ≤ N) ∧ Aside0 (I L2 wx ∧ Low base G w1 wx)) (fun v25 _ => Road.leftOf 32 v25)
      case atStart => exact ⟨0, L1, rfl, ⟨by omega⟩, ⟨HE1.out.1, HE1.out.2.2⟩, ⟨H1.out.1, Low.refl _ _ _⟩⟩
      case round =>
        obtain ⟨k, L2, rfl, HK, HRB, HIL⟩ := hrel
        have aw : Tr.at wr (Tr.node g b bs l r h0) := at_low HIL.out.2 (Tr.node g b bs l r h0) HE1.out.2.1 (fun x hx => (List.mem_cons.1 hx).elim (fun e => e ▸ HH.out.2.2.2.2.2) (fun e => (List.mem_append.1 e).elim (HH.out.2.2.2.1 x) (HH.out.2.2.2.2.1 x)))
        rcases Nat.lt_or_ge k 32 with hk | hk
        · have k1' := eq_true (show (k : Int) < 32 by omega)
          have k2' := eq_true hk
          obtain ⟨zk, hzk⟩ : ∃ zk, zk = bs.getD k 0 := ⟨_, rfl⟩
          have hkl : k < bs.length := by rw [aw.1]; exact hk
          have hzk2 : zk = bs[k] := by rw [hzk, List.getD_eq_getElem?_getD, List.getElem?_eq_getElem hkl]; rfl
          have ix : LL[k]? = some (.int .u64 (zk : Int)) := by
            rw [HL2.out, List.getElem?_map, hzk2, List.getElem?_eq_getElem hkl]
            rfl
          have hix := run_index_bits LL k zk wr hk ix
          have cb := nd_base aw.2.1
          have u1 : IntKind.u64.wrap (k : Int) = (k : Int) := Road.wu64 _ _ rfl (by omega) (by omega)
          obtain ⟨m, hm⟩ : ∃ m, m = 64 * k := ⟨_, rfl⟩
          have u2 : IntKind.u64.wrap ((k : Int) * 64) = (m : Int) := Road.wu64 _ _ (by omega) (by omega) (by omega)
          obtain ⟨B, hB⟩ : ∃ B, B = (b + m) % 18446744073709551616 := ⟨_, rfl⟩
          have u3 : IntKind.u64.wrap ((b : Int) + (m : Int)) = (B : Int) := by rw [hB, ← wu64m, Int.natCast_add]
          have hdrop : ownW (b + 64 * k) (bs.drop k) = (bitsOf zk).map (fun i => (B + i) % 18446744073709551616) ++ ownW (b + 64 * (k + 1)) (bs.drop (k + 1)) := by
            rw [List.drop_eq_getElem_cons hkl, ownW, hB, hm, hzk2, show b + 64 * (k + 1) = b + 64 * k + 64 by omega]
            simp only [Nat.mod_add_mod]
          have hB64 : B < 18446744073709551616 := by rw [hB]; exact Nat.mod_lt _ (by decide)
          have hz64 : zk < 18446744073709551616 := by rw [hzk2]; exact HH.out.2.1.2.1 _ (List.getElem_mem hkl)
          have HZ := Aside0.mk (And.intro hk (And.intro hdrop (And.intro hB64 (And.intro hz64 (And.intro hB hm)))))
          clear hk hzk hzk2 hkl ix hm hB hdrop hB64 hz64 aw
          go_upto_region 10 with fail
          go_loopw [7] (fun v7 wx => ∃ (y : Nat) (L3 : List Nat), v7 = .int .u64 (y : Int) ∧ Aside0 (y < 18446744073709551616) ∧ Aside0 (RB = runL go L3 ((bitsOf y).map (fun i => (B + i) % 18446744073709551616) ++ (ownW (b + 64 * (k + 1)) (bs.drop (k + 1)) ++ (numsX r))) ∧ L3.length + ((bitsOf y).map (fun i => (B + i) % 18446744073709551616) ++ (ownW (b + 64 * (k + 1)) (bs.drop (k + 1)) ++ (numsX r))).length ≤ N) ∧ Aside0 (I L3 wx ∧ Low base G w1 wx)) (fun v7 _ => Road_natOf v7)
          case atStart => exact ⟨zk, L2, rfl, ⟨HZ.out.2.2.2.1⟩, ⟨by rw [HRB.out.1, HZ.out.2.1, List.append_assoc], by have := HRB.out.2; rw [HZ.out.2.1, List.append_assoc] at this; exact this⟩, HIL⟩
          case round =>
            obtain ⟨y, L3, rfl, HY, HRB3, HIL3⟩ := hrel
            by_cases hy0 : y = 0
            · have z1 : ((y : Int) != 0) = false := bne_eq_false_iff_eq.2 (by omega)
              have z2 : decide (y = 0) = true := decide_eq_true hy0
              have z3 := eq_true hy0
              have HY0 := Aside0.mk hy0
              clear hy0
              go_wp2_with fail
              go_roundw
              case rel =>
                refine ⟨k + 1, L3, ?_, ⟨HZ.out.1⟩, ⟨?_, ?_⟩, HIL3⟩
                · rw [Road.w64 ((k : Int) + 1) ((k + 1 : Nat) : Int) (by omega) (by omega) (by have := HZ.out.1; omega)]
                · rw [HRB3.out.1, HY0.out, bitsOf_zero, List.map_nil, List.nil_append]
                · have := HRB3.out.2
                  rw [HY0.out, bitsOf_zero, List.map_nil, List.nil_append] at this
                  exact this
              case measure =>
                rw [Road.w64 ((k : Int) + 1) ((k + 1 : Nat) : Int) (by omega) (by omega) (by have := HZ.out.1; omega)]
                exact Road.leftOf_lt HZ.out.1
            · have z1 : ((y : Int) != 0) = true := bne_iff_ne.2 (fun e => hy0 (Int.ofNat.inj e))
              have z2 : decide (y = 0) = false := decide_eq_false hy0
              have z3 := eq_false hy0
              obtain ⟨c, hc⟩ : ∃ c, c = Lib.ctz 64 y := ⟨_, rfl⟩
              have hc64 : c < 64 := by rw [hc]; exact (Lib.lowest_bit 64 y hy0 HY.out).2
              have u4 : IntKind.u64.wrap (c : Int) = (c : Int) := Road.wu64 _ _ rfl (by omega) (by omega)
              obtain ⟨n, hn⟩ : ∃ n, n = (B + c) % 18446744073709551616 := ⟨_, rfl⟩
              have u5 : IntKind.u64.wrap ((B : Int) + (c : Int)) = (n : Int) := by rw [hn, ← wu64m, Int.natCast_add]
              have hys : (bitsOf y).map (fun i => (B + i) % 18446744073709551616) = n :: (bitsOf (y &&& (y - 1))).map (fun i => (B + i) % 18446744073709551616) := by rw [bitsOf_step y hy0 HY.out, hn, hc]; rfl
              obtain ⟨y1, hy1⟩ : ∃ x, x = y - 1 := ⟨_, rfl⟩
              have u6 : IntKind.u64.wrap ((y : Int) - 1) = (y1 : Int) := Road.wu64 _ _ (by omega) (by omega) (by have := HY.out; omega)
              obtain ⟨y2, hy2⟩ : ∃ x, x = y &&& y1 := ⟨_, rfl⟩
              have u7 : bits .and .u64 (y : Int) (y1 : Int) = (y2 : Int) := by rw [hy2]; exact and_u64 y y1 HY.out (by have := HY.out; omega)
              have hy2l : y2 < y := by
                have : y2 ≤ y1 := by rw [hy2]; exact Nat.and_le_right
                omega
              have htz := tz_calls y HY.out hy0 wr (tab_low (HIL3.out.2) HR.out.2.1 HR.out.2.2 (tab_low H1.out.2.1 HR.out.2.1 HR.out.2.2 HH.out.2.2.1))
              rw [← hc] at htz
              rw [hy1] at hy2
              have HC := Aside0.mk (And.intro trivial (And.intro hys (And.intro hy2 hy2l)))
              clear hy0 hc hc64 hn hys hy1 hy2 hy2l
              go_wp2_with fail
              refine htz.mono ?_
              clear htz
              rintro e w5 ⟨rfl, rfl⟩
              go_wp2_with fail
              refine (HFF.out L3 n w5 HIL3.out.1 (by have := HRB3.out.2; rw [HC.out.2.1, List.cons_append, List.length_cons] at this; omega)).mono ?_
              rintro e w6 ⟨rfl, i6, l6⟩
              obtain ⟨q2, hq2⟩ : ∃ q2, q2 = go L3 n := ⟨_, rfl⟩
              rw [← hq2]
              have H6 := Aside0.mk (And.intro i6 (And.intro l6 hq2))
              clear i6 l6 hq2
              cases q2 with
              | false =>
                go_wp2_with fail
                go_ret
                have e : RB = (L3 ++ [n], false) := by rw [HRB3.out.1, HC.out.2.1, List.cons_append, runL, if_neg (by rw [← H6.out.2.2]; simp)]
                rw [e]
                exact ⟨rfl, H6.out.1, H1.out.2.1.trans (HIL3.out.2.trans H6.out.2.1)⟩
              | true =>
                go_wp2_with fail
                go_roundw
                case rel =>
                  refine ⟨y2, L3 ++ [n], rfl, ⟨by have := HC.out.2.2.2; have := HY.out; omega⟩, ⟨?_, ?_⟩, ⟨H6.out.1, HIL3.out.2.trans H6.out.2.1⟩⟩
                  · rw [HRB3.out.1, HC.out.2.1, List.cons_append, runL, if_pos H6.out.2.2.symm, HC.out.2.2.1]
                  · have := HRB3.out.2
                    rw [HC.out.2.1, List.cons_append, List.length_cons, ← HC.out.2.2.1] at this
                    rw [List.length_append, List.length_singleton]
                    omega
                case measure =>
                  show (y2 : Int).toNat < (y : Int).toNat
                  have := HC.out.2.2.2
                  omega
        · obtain rfl : k = 32 := by have := HK.out; omega
          have kr : wr.cell? ⟨g, 34, none⟩ = some (.pointer r.pp) := nd_r aw.2.1 aw.1
          have hrb4 : RB = runL go L2 (numsX r) := by
            rw [HRB.out.1, List.drop_of_length_le (Nat.le_of_eq aw.1)]
            rfl
          have hN4 : L2.length + (numsX r).length ≤ N := by
            have := HRB.out.2
            rw [List.drop_of_length_le (Nat.le_of_eq aw.1)] at this
            exact this
          have HN4 := Aside0.mk hN4
          clear hN4
          have HRB4 := Aside0.mk hrb4
          clear hrb4
          have HAR := Aside0.mk aw.2.2.2
          clear hk aw
          go_wp2_with fail
          refine (ihr L2 wr HAR.out HH.out.2.1.2.2.2 HIL.out.1 (tab_low HIL.out.2 HR.out.2.1 HR.out.2.2 (tab_low H1.out.2.1 HR.out.2.1 HR.out.2.2 HH.out.2.2.1)) HH.out.2.2.2.2.1 HN4.out).mono ?_
          rintro e w6 ⟨rfl, i6, l6⟩
          rw [← HRB4.out] at i6 ⊢
          have H6 := Aside0.mk (And.intro i6 l6)
          clear i6 l6
          obtain ⟨q2, hq2⟩ : ∃ q2, q2 = RB.2 := ⟨_, rfl⟩
          rw [← hq2]
          have HQ2 := Aside0.mk hq2
          clear hq2
          cases q2 with
          | false =>
            go_wp2_with fail
            go_ret
            exact ⟨by rw [← HQ2.out]; rfl, H6.out.1, H1.out.2.1.trans (HIL.out.2.trans H6.out.2)⟩
          | true =>
            go_wp2_with fail
            go_ret
            exact ⟨by rw [← HQ2.out]; rfl, H6.out.1, H1.out.2.1.trans (HIL.out.2.trans H6.out.2)⟩
theorem rangeX_calls (N base : Nat) (G : List Nat) (I : List Nat → World → Prop) (go : List Nat → Nat → Bool) (Bo : Nat)
    (hF : ∀ (L : List Nat) (n : Nat) (w : World), I L w → L.length < N → Calls Tryd.prog 53 #[.int .u64 (n : Int), .pointer (some ⟨Bo, 0, none⟩)] w fun e w' => e = .returned (.bool (go L n)) ∧ I (L ++ [n]) w' ∧ Low base G w w')
    (hgT : 3 < base ∧ 3 ∉ G) (SS : Nat) (t : Tr) (sz nn : Int) (w : World) (hS : w.heap[SS]? = some (.cells (ssC t.p sz nn false) 84 (0, 0))) (hA : t.at w) (hfit : fitX t) (hI : I [] w) (hT : TabAt 3 Lib.deBruijn64tab w) (hd : ∀ x ∈ t.bl, x < base ∧ x ∉ G) (hN : (numsX t).length ≤ N) :
    Calls Tryd.prog 31 #[.pointer (some ⟨SS, 0, none⟩), .func (.func 53) #[] #[.pointer (some ⟨Bo, 0, none⟩)]] w fun e w' => e = .returned (.tuple #[]) ∧ I (runL go [] (numsX t)).1 w' ∧ Low base G w w' := by
  have c0 : w.cell? ⟨SS, 0, none⟩ = some (.pointer t.pp) := (cell_of_row w SS 0 _ _ _ hS).trans rfl
  have HI := Aside0.mk (iterX_calls N base G I go Bo hF hgT t [] w hA hfit hI hT hd (by simpa using hN))
  clear hF hgT hS hI hT hd hN hA hfit
  go_enter Tryd.func31, Tryd.ntmps31
  go_wp2_with fail
  refine HI.out.mono ?_
  rintro e w1 ⟨rfl, i1, l1⟩
  have H1 := Aside0.mk (And.intro i1 l1)
  clear i1 l1
  go_wp2_with fail
  go_end0
  exact ⟨rfl, H1.out.1, H1.out.2⟩
set_option maxHeartbeats 8000000 in
set_option maxRecDepth 100000 in
theorem allX_walk (SS : Nat) (t : Tr) (sz nn : Int) (w : World) (hS : w.heap[SS]? = some (.cells (ssC t.p sz nn false) 84 (0, 0))) (hA : t.at w) (hfit : fitX t) (hl : (numsX t).length ≤ 100000000) (hT : TabAt 3 Lib.deBruijn64tab w) :
    Calls Tryd.prog 37 #[.pointer (some ⟨SS, 0, none⟩)] w fun e w' => ∃ v, e = .returned v ∧ Kd.R (Kd.int .u64) 32 w' w.heap.size (fun _ => True) v ((numsX t).map (fun n : Nat => (n : Int))) ∧ Below w.heap.size w w' := by
  obtain ⟨W2, hW2⟩ : ∃ W2, W2 = w.alloc (.cells #[.slice none 0 0] 25 (0, 0)) := ⟨_, rfl⟩
  have b2 : Below w.heap.size w W2 := by rw [hW2]; exact below_alloc (Below.refl _ _) _
  have z2 : W2.heap.size = w.heap.size + 1 := by rw [hW2]; simp
  have qo : W2.heap[w.heap.size]? = some (.cells #[.slice none 0 0] 25 (0, 0)) := by rw [hW2]; exact heap_alloc_new w _
  have hS2 := (b2.block SS (Array.getElem?_eq_some_iff.1 hS).1).trans hS
  have hA2 : t.at W2 := at_keep (F := []) ⟨b2.os, b2.tape, b2.output, b2.size, fun k hk _ => b2.block k hk⟩ t hA (by simp)
  have hlt := tab_lt hT
  have hI : allCI W2.heap.size w.heap.size [] W2 := ⟨Nat.le_refl _, _, qo, Kd.R_nil _ _ _ _ _⟩
  have hR := rangeX_calls 100000000 W2.heap.size [w.heap.size] (allCI W2.heap.size w.heap.size) (fun _ _ => true) w.heap.size
    (fun L n w hI hL => allC_calls _ _ L n w hI (by omega) (by omega)) ⟨by omega, by simp; omega⟩ SS t sz nn W2 hS2 hA2 hfit hI (tab_below b2 hT)
    (fun x h => ⟨at_lt t hA2 x h, by have := at_lt t hA x h; simp; omega⟩) hl
  rw [runL_all (numsX t) [], List.nil_append] at hR
  have HR := Aside0.mk (And.intro hR b2)
  clear b2 z2 qo hS hT hl hS2 hlt hI hR hA hA2 hfit
  go_enter Tryd.func37, Tryd.ntmps37
  go_wp2_with fail
  rw [← hW2]
  clear hW2
  refine HR.out.1.mono ?_
  rintro e w4 ⟨rfl, i4, l4⟩
  obtain ⟨i1, v, i3, i4⟩ := i4
  have kv : w4.cell? ⟨w.heap.size, 0, none⟩ = some v := cell_of_row w4 w.heap.size 0 _ _ _ i3
  have H4 := Aside0.mk (And.intro l4 i4)
  clear i1 i3 i4 l4
  go_wp2_with fail
  go_ret
  exact ⟨_, rfl, Kd.R_mono (Kd.R_lower H4.out.2 HR.out.2.size) (fun _ _ => trivial), HR.out.2.trans (H4.out.1.below HR.out.2.size (fun x h => by rw [List.mem_singleton.1 h]; omega))⟩
/-! ### version 1: what is put in -/
theorem setX_ht (s : Nat) (t : Tr) : (setX s t).ht = t.ht := by
  cases t with
  | nil => rfl
  | node g b bs l r h =>
    unfold setX
    split
    · rfl
    · split <;> rfl
theorem mH_of {l r l' r' : Tr} {g b g' b' : Nat} {bs bs' : List Nat} {h h' : Int} (h1 : l.ht = l'.ht) (h2 : r.ht = r'.ht) : mH (.node g b bs l r h) = mH (.node g' b' bs' l' r' h') := by
  show (if r.ht < l.ht then l.ht else r.ht) = (if r'.ht < l'.ht then l'.ht else r'.ht)
  rw [h1, h2]
theorem setX_good (s : Nat) : ∀ t : Tr, t.good → (setX s t).good
  | .nil, h => h
  | .node g b bs l r h, ⟨h1, h2, h3⟩ => by
    unfold setX
    split
    · exact ⟨by rw [h1]; congr 1; exact mH_of (setX_ht s l).symm rfl, setX_good s l h2, h3⟩
    · split
      · exact ⟨by rw [h1]; congr 1; exact mH_of rfl (setX_ht s r).symm, h2, setX_good s r h3⟩
      · exact ⟨h1, h2, h3⟩
theorem setX_sz (s : Nat) : ∀ t : Tr, (setX s t).sz = t.sz
  | .nil => rfl
  | .node g b bs l r h => by
    unfold setX
    split
    · simp only [Tr.sz, setX_sz s l]
    · split
      · simp only [Tr.sz, setX_sz s r]
      · rfl
def bsX : Tr → Prop
  | .nil => True
  | .node _ _ bs l r _ => bs.length = 32 ∧ bsX l ∧ bsX r
theorem bsX_of {w : World} : ∀ t : Tr, t.at w → bsX t
  | .nil, _ => trivial
  | .node _ _ _ l r _, h => ⟨h.1, bsX_of l h.2.2.1, bsX_of r h.2.2.2⟩
theorem setX_fit {s : Nat} : ∀ t : Tr, bsX t → fitX t → fitX (setX s t)
  | .nil, _, h => h
  | .node g b bs l r h, ⟨k1, k2, k3⟩, ⟨h1, h2, h3, h4⟩ => by
    unfold setX
    split
    · exact ⟨h1, h2, setX_fit l k2 h3, h4⟩
    · split
      · exact ⟨h1, h2, h3, setX_fit r k3 h4⟩
      · rename_i c1 c2
        refine ⟨h1, ?_, h3, h4⟩
        split
        · exact h2
        · have := eB_le b
          exact put_small h2 (by omega)
theorem rotLt_fit : ∀ t : Tr, fitX t → fitX (rotLt t)
  | .nil, h => h
  | .node _ _ _ _ .nil _, h => h
  | .node g b bs o (.node g2 b2 bs2 i p k2) h, ⟨h1, h2, h3, h4, h5, h6, h7⟩ => ⟨h4, h5, ⟨h1, h2, h3, h6⟩, h7⟩
theorem rotRt_fit : ∀ t : Tr, fitX t → fitX (rotRt t)
  | .nil, h => h
  | .node _ _ _ .nil _ _, h => h
  | .node g b bs (.node g2 b2 bs2 p i k2) o h, ⟨h1, h2, ⟨h4, h5, h6, h7⟩, h3⟩ => ⟨h4, h5, h6, ⟨h1, h2, h7, h3⟩⟩
theorem balT_fit {g b : Nat} {bs : List Nat} {l r : Tr} (h1 : b < 18446744073709551616) (h2 : ∀ z ∈ bs, z < 18446744073709551616) (hl : fitX l) (hr : fitX r) : fitX (balT g b bs l r) := by
  unfold balT
  simp only
  split
  · refine rotRt_fit _ ⟨h1, h2, ?_, hr⟩
    split
    · exact rotLt_fit l hl
    · exact hl
  · split
    · refine rotLt_fit _ ⟨h1, h2, hl, ?_⟩
      split
      · exact rotRt_fit r hr
      · exact hr
    · exact ⟨h1, h2, hl, hr⟩
theorem insX_fit {n s : Nat} (hs : s < 18446744073709551616) : ∀ t : Tr, bsX t → fitX t → fitX (insX n s t)
  | .nil, _, _ => by
    refine ⟨by omega, put_small (fun z hz => by rw [List.eq_of_mem_replicate hz]; decide) (by rw [List.length_replicate]; omega), trivial, trivial⟩
  | .node g b bs l r h, ⟨k1, k2, k3⟩, ⟨h1, h2, h3, h4⟩ => by
    unfold insX
    split
    · exact balT_fit h1 h2 (insX_fit hs l k2 h3) h4
    · split
      · exact balT_fit h1 h2 h3 (insX_fit hs r k3 h4)
      · rename_i c1 c2
        refine balT_fit h1 ?_ h3 h4
        split
        · exact h2
        · have := eB_le b
          exact put_small h2 (by omega)
theorem er_insX (n s : Nat) : ∀ t : Tr, er (insX n s t) = insX 0 s (er t)
  | .nil => rfl
  | .node g b bs l r h => by simp only [insX, er_ite, er_balT, er_insX n s l, er_insX n s r, er]
theorem er_setX (s : Nat) : ∀ t : Tr, er (setX s t) = setX s (er t)
  | .nil => rfl
  | .node g b bs l r h => by simp only [setX, er_ite, er_setX s l, er_setX s r, er]
theorem er_ndX (s : Nat) : ∀ t : Tr, ndX s (er t) = ndX s t
  | .nil => rfl
  | .node g b bs l r h => by simp only [ndX, er, er_ndX s l, er_ndX s r]
theorem er_inX (s : Nat) : ∀ t : Tr, inX s (er t) = inX s t
  | .nil => rfl
  | .node g b bs l r h => by simp only [inX, er, er_inX s l, er_inX s r]
theorem er_addX (n s : Nat) (t : Tr) : er (addX n s t) = addX 0 s (er t) := by simp only [addX, er_ite, er_setX, er_insX, er_ndX]
theorem er_numsX : ∀ t : Tr, numsX (er t) = numsX t
  | .nil => rfl
  | .node g b bs l r h => by rw [er, numsX, numsX, er_numsX l, er_numsX r]
/-- One number more: the tree without its addresses, and how many numbers there are. -/
def stepX (p : Tr × Nat) (s : Nat) : Tr × Nat := (addX 0 s p.1, p.2 + if inX s p.1 = true then 0 else 1)
def stX (L : List Nat) : Tr × Nat := L.foldl stepX (.nil, 0)
theorem stX_snoc (L : List Nat) (s : Nat) : stX (L ++ [s]) = stepX (stX L) s := by rw [stX, List.foldl_append]; rfl
/-- A set lies in memory, made of blocks from base on, into which L was put, number by number. -/
structure XAt (w : World) (base SS : Nat) (t : Tr) (L : List Nat) : Prop where
  tr : t.at w
  nodup : t.bl.Nodup
  good : t.good
  fit : fitX t
  sz : t.sz ≤ L.length
  er : er t = (stX L).1
  cnt : (stX L).2 ≤ L.length
  ss : ∃ nn : Nat, nn ≤ L.length ∧ w.heap[SS]? = some (.cells (ssC t.p ((stX L).2 : Nat) nn false) 84 (0, 0))
  apart : SS ∉ t.bl
  new : base ≤ SS ∧ ∀ x ∈ t.bl, base ≤ x
theorem XAt.keep {w w' : World} {base SS : Nat} {t : Tr} {L : List Nat} (X : XAt w base SS t L) (h : Below w.heap.size w w') : XAt w' base SS t L := by
  obtain ⟨nn, h1, h2⟩ := X.ss
  exact ⟨at_keep (F := []) ⟨h.os, h.tape, h.output, h.size, fun k hk _ => h.block k hk⟩ t X.tr (by simp), X.nodup, X.good, X.fit, X.sz, X.er, X.cnt, ⟨nn, h1, (h.block SS (Array.getElem?_eq_some_iff.1 h2).1).trans h2⟩, X.apart, X.new⟩
theorem XAt.put (B base SS s : Nat) (ys : List Nat) (t : Tr) (L : List Nat) (w : World) (X : XAt w base SS t L) (hL : L.length ≤ 9999) (hs : s < 18446744073709551616) (hB : rowP w B ys) (hlt : B < base) (hbw : base ≤ w.heap.size) :
    Calls Tryd.prog 51 #[.pointer (some ⟨SS, 0, none⟩), .int .u64 (s : Int)] w fun e w' => e = .returned (.tuple #[]) ∧ (∃ t', XAt w' base SS t' (L ++ [s])) ∧ rowP w' B ys ∧ Below base w w' := by
  obtain ⟨nn, n1, n2⟩ := X.ss
  have hcnt := X.cnt
  have hsz := X.sz
  refine (InsertX_calls t SS ((stX L).2 : Nat) nn s w X.tr X.nodup X.good (by omega) X.fit n2 X.apart hs (by omega) (by omega)).mono ?_
  rintro e w' ⟨rfl, a, q, c⟩
  have hlow : ∀ x ∈ SS :: t.bl, base ≤ x := fun x hx => (List.mem_cons.1 hx).elim (fun e => e ▸ X.new.1) (X.new.2 x)
  have hb : Below base w w' := ⟨c.os, c.tape, c.output, c.size, fun k hk => c.keep k (by omega) (fun hm => by have := hlow k hm; omega)⟩
  have hlt2 := at_lt t X.tr
  have hSlt : SS < w.heap.size := (Array.getElem?_eq_some_iff.1 n2).1
  have hn : w.heap.size ∉ t.bl := fun hm => Nat.lt_irrefl _ (hlt2 _ hm)
  have ht : (stX (L ++ [s])).1 = addX 0 s (stX L).1 := by rw [stX_snoc]; rfl
  have h2 : (stX (L ++ [s])).2 = (stX L).2 + if inX s t = true then 0 else 1 := by
    rw [stX_snoc]
    show (stX L).2 + (if inX s (stX L).1 = true then 0 else 1) = _
    rw [← X.er, er_inX]
  have hbl : ∀ x ∈ (addX w.heap.size s t).bl, x ∈ t.bl ∨ x = w.heap.size := by
    intro x hx
    unfold addX at hx
    split at hx
    · rw [setX_bl] at hx; exact .inl hx
    · exact insX_sub _ _ t x hx
  refine ⟨rfl, ⟨addX w.heap.size s t, a, ?_, ?_, ?_, ?_, ?_, ?_, ?_, ?_, ?_, ?_⟩, hB.keep (hb.block B hlt), hb⟩
  · unfold addX
    split
    · rw [setX_bl]; exact X.nodup
    · exact insX_nodup _ _ _ X.nodup hn
  · unfold addX
    split
    · exact setX_good s t X.good
    · exact insX_good _ _ t X.good
  · unfold addX
    split
    · exact setX_fit t (bsX_of t X.tr) X.fit
    · exact insX_fit hs t (bsX_of t X.tr) X.fit
  · rw [List.length_append, List.length_singleton]
    unfold addX
    split
    · rw [setX_sz]; omega
    · rw [insX_sz]; split <;> omega
  · rw [ht, er_addX, X.er]
  · rw [h2, List.length_append, List.length_singleton]
    split <;> omega
  · refine ⟨nn + (if ndX s t = true then 0 else 1), ?_, ?_⟩
    · rw [List.length_append, List.length_singleton]
      split <;> omega
    · rw [q, h2]
      congr 3
      · split <;> simp
      · split <;> simp
  · intro hm
    rcases hbl _ hm with h | h
    · exact X.apart h
    · omega
  · exact X.new.1
  · intro x hx
    rcases hbl _ hx with h | h
    · exact X.new.2 x h
    · omega

end Go.Proofs.YtjhdnapgdajllaaDoor.SetInsXW
