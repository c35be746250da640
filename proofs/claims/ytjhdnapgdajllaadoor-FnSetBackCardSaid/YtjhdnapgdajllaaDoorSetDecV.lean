/- WALKS: bytes are read as a set. -/
import Derived.Test.YtjhdnapgdajllaaDoorProg
import Derived.Below
import Derived.Deep.Draws
import Derived.Deep.AppendLies
import Derived.Maps.AppendAt
import Derived.OwnWalk
import Derived.Laws.BytesArg
import Derived.Laws.MakeOwn
import Derived.Laws.OwnMore
import Derived.Deep.OwnRows
import Derived.Tactics
import Derived.Lib.ConvBytes
import Derived.Laws.Slices
import Derived.WalkKit
import Derived.KernelRfl
import Derived.RowKit3
import Derived.Deep.LoopGhost
import Derived.Deep.QuietTactic
import Derived.BigQuiet
import Derived.WideLaws
import Derived.Deep.DeepCutAuto
import Derived.Deep.CutBlock
import Derived.Deep.RegionHeld3
import Derived.Laws.Rows
import Derived.Lib.AppendStr
import Derived.ArgAppend
import Derived.Laws.IdiomCopy
import Derived.OrdersHeld
import Derived.Laws.BitsLemmas
import Derived.RowKit
import Derived.Test.YtjhdnapgdajllaaDoorWWords
import Derived.Test.YtjhdnapgdajllaaDoorWLast
import Derived.Test.YtjhdnapgdajllaaDoorWTab
import Derived.Test.YtjhdnapgdajllaaDoorWFour
import Derived.Test.YtjhdnapgdajllaaDoorWQPut
import Derived.Test.YtjhdnapgdajllaaDoorWApart
import Derived.Test.YtjhdnapgdajllaaDoorWArr
import Derived.Test.YtjhdnapgdajllaaDoorWZeros
import Derived.Test.YtjhdnapgdajllaaDoorWFoot
import Derived.Test.YtjhdnapgdajllaaDoorWKept
import Derived.Test.YtjhdnapgdajllaaDoorWShare
import Derived.Test.YtjhdnapgdajllaaDoorWN
import Derived.Test.YtjhdnapgdajllaaDoorWFootNe
import Derived.Test.YtjhdnapgdajllaaDoorWAt
import Derived.Test.YtjhdnapgdajllaaDoorWEqStruct
import Derived.Test.YtjhdnapgdajllaaDoorWRepsOne
import Derived.Test.YtjhdnapgdajllaaDoorWInv
import Derived.Test.YtjhdnapgdajllaaDoorWInvWords
import Derived.Test.YtjhdnapgdajllaaDoorWGuard
import Derived.Test.YtjhdnapgdajllaaDoorWNEv
import Derived.Test.YtjhdnapgdajllaaDoorWMore
import Derived.Test.YtjhdnapgdajllaaDoorSetIterG
namespace Go.Proofs.YtjhdnapgdajllaaDoor.SetDecV
open Go.RowKit Go.Proofs.YtjhdnapgdajllaaDoorW.PrintWords Go.Proofs.YtjhdnapgdajllaaDoorW.PrintLast Go.Proofs.YtjhdnapgdajllaaDoorW.PrintMore
attribute [local go_sem] max2_int min2_int max_two min_two max_three min_three max_four min_four   -- for this text's walks alone
set_option linter.unusedVariables false
set_option linter.unusedSimpArgs false



open _root_.Go.Proofs.YtjhdnapgdajllaaDoor.SetW _root_.Go.Proofs.YtjhdnapgdajllaaDoor.SetSpecW _root_.Go.Proofs.YtjhdnapgdajllaaDoor.SetEncW _root_.Go.Proofs.YtjhdnapgdajllaaDoor.SetDecW _root_.Go.Proofs.YtjhdnapgdajllaaDoor.SetIterG
theorem infoB : (Tryd.prog.info? 5).map (fun i => (i.zero, i.size, i.bytes)) = some (some (.int .u8 0), 1, 1) := by kernel_rfl
def cp_f (l0 : List Int) : Option (List Int) := (some (([] : List Int) : List Int)).bind fun y101 => (if y101.length + l0.length < 140737488355328 then (some (y101 ++ l0)) else (none))
set_option maxHeartbeats 8000000 in
set_option maxRecDepth 100000 in
theorem cp_calls (A0 : Option Addr) (c0 : Nat) (l0 : List Int) (r : List Int) (w : World) (hr0 : Kd.C (Kd.int .u8) w A0 l0.length l0) (hc0 : l0.length ≤ c0) (h : cp_f l0 = some r) :
    Calls Tryd.prog 43 #[.slice A0 l0.length c0] w fun e w' => ∃ v0_ : Value, e = .returned (v0_) ∧ Kd.R (Kd.int .u8) 5 w' w.heap.size (fun _ => True) v0_ r ∧ Below w.heap.size w w' := by
  have HR0 := Aside0.mk hr0
  have HC0 := Aside0.mk hc0
  clear hr0 hc0
  have HB := Aside0.mk (Below.refl w.heap.size w)
  have H : ((some (([] : List Int) : List Int)).bind fun y101 => (if y101.length + l0.length < 140737488355328 then (some (y101 ++ l0)) else (none))) = some r := h
  clear h
  obtain ⟨y101, hy101⟩ : ∃ y_ : List Int, y_ = (([] : List Int)) := ⟨_, rfl⟩
  replace H : (if y101.length + l0.length < 140737488355328 then (some (y101 ++ l0)) else (none)) = some r := by first | (rw [hy101]; with_reducible exact H) | (have H2_ := (Option.bind_some _ _).symm.trans H; rw [hy101]; with_reducible exact H2_) | (have H2_ := (Option.bind_some _ _).symm.trans H; with_reducible exact H2_) | with_reducible exact H | (rw [hy101]; exact H) | exact H
  have Ny101 := Aside0.mk hy101
  clear hy101
  by_cases c2 : y101.length + l0.length < 140737488355328
  · rw [if_pos c2] at H
    have LMc2 := Aside0.mk c2
    clear c2
    obtain ⟨y104, hy104⟩ : ∃ y_ : List Int, y_ = (y101 ++ l0) := ⟨_, rfl⟩
    replace H : (some y104) = some r := by first | (rw [hy104]; with_reducible exact H) | (have H2_ := (Option.bind_some _ _).symm.trans H; rw [hy104]; with_reducible exact H2_) | (have H2_ := (Option.bind_some _ _).symm.trans H; with_reducible exact H2_) | with_reducible exact H | (rw [hy104]; exact H) | exact H
    have Ny104 := Aside0.mk hy104
    clear hy104
    obtain rfl := Option.some.inj H
    go_enter Tryd.func43, Tryd.ntmps43
    go_wp2_with (first | ((with_reducible refine gate_dst (N := 3) rfl ?_); refine Kd.R_lit (Kd.int .u8) _ 5 ?hg (N := 3) ?hd (xs := ([] : List Int)) (inner := []) (ok := fun _ => True) (okp := fun _ => True) ?hr ?hp (fun _ hk => hk) trivial (Below.refl _ _) (Nat.le_refl _) (by simp) ?_; (case hd => rfl); (case hg => rfl); (case hr => first | (go_simp; done) | (go_simp; rfl)); (case hp => exact (Reps.none _ _)); intro v102 w3 ho4 hb hg_ hnew_; clear hg_ hnew_; (first | rw [← Ny101.out] at ho4 | (simp only [Int.reduceToNat] at ho4; rw [← Ny101.out] at ho4)); have n0_ := Aside0.mk (Kd.R_lower ho4 (below_size (by repeat (first | (with_reducible first | exact HB.out | apply below_alloc | apply pw_below_drewN | apply below_drew1) | exact HB.out)))); have n1_ := Aside0.mk (below_step (by repeat (first | (with_reducible first | exact HB.out | apply below_alloc | apply pw_below_drewN | apply below_drew1) | exact HB.out)) hb); clear HB; have HO103 := n0_; have HB := n1_; clear n0_ n1_; clear hb ho4) | ((with_reducible refine gate_builtin (b := .append) (xs := #[.tmp 3, .tmp 4]) rfl ?_); at_builtin; refine Kd.R_append_rows (Kd.int .u8) (w0 := w) w.heap.size rfl (.tmp 3) (.tmp 4) 47 5 (.int .u8 0) 1 rfl Tryd.underlying47 infoB rfl (by decide) (by omega) v102 y101 l0 _ _ _ (fun _ => True) (fun _ => False) rfl rfl ?aO ?aR (fun _ _ h => h) (fun _ h => h.elim) ?aF ?aB ?aS ?aL ?_; (case aR => repeat (first | exact (Kd.C_below HR0.out HB.out) | (with_reducible refine Kd.C_alloc ?_ _) | (with_reducible refine Kd.C_drewN ?_ _) | (with_reducible refine Kd.C_drew ?_))); (case aB => exact (by repeat (first | (with_reducible first | exact HB.out | apply below_alloc | apply pw_below_drewN | apply below_drew1) | exact HB.out))); (case aF => exact (fun _ _ => trivial)); (case aO => exact (by (with_reducible repeat (first | apply Kd.R_alloc | apply Kd.R_drewN | apply Kd.R_drew)); exact HO103.out)); (case aS => exact (below_size (by repeat (first | (with_reducible first | exact HB.out | apply below_alloc | apply pw_below_drewN | apply below_drew1) | exact HB.out)))); (case aL => have := LMc2.out; omega); intro v105 w5 ho hb hg hat; rw [← Ny104.out] at ho; have n0_ := Aside0.mk (hb); have n1_ := Aside0.mk (ho); clear HB; clear HO103; have HB := n0_; have HO106 := n1_; clear n0_ n1_; clear ho hb hg hat))
    go_ret
    exact ⟨_, by first | rfl | (simp [errW_none, errW_some] <;> rfl) | (simp [*, errW_none, errW_some] <;> rfl), by (with_reducible repeat (first | apply Kd.R_alloc | apply Kd.R_drewN | apply Kd.R_drew)); exact HO106.out, by repeat (first | (with_reducible first | exact HB.out | apply below_alloc | apply pw_below_drewN | apply below_drew1) | exact HB.out)⟩
  · rw [if_neg c2] at H
    exact absurd H (by simp)
/-- A fresh row of bytes, as a row at the head of a block. -/
theorem own_rowP {w : World} {base : Nat} {ok : Nat → Prop} {v : Value} {ys : List Nat} (h : Kd.R (Kd.int .u8) 5 w base ok v (ys.map (fun n : Nat => (n : Int)))) (h0 : 0 < ys.length) :
    ∃ g c, v = .slice (some ⟨g, 0, none⟩) ys.length c ∧ rowP w g ys ∧ ys.length ≤ c ∧ base ≤ g := by
  have ho := Kd.own_of_R h
  obtain ⟨_, hc⟩ := ho
  rw [List.length_map] at hc
  rcases hc with ⟨_, hc⟩ | ⟨g, cap, cur, rfl, hg, hh, hn, _, _, ht⟩
  · omega
  · refine ⟨g, cap, rfl, ⟨cur, hh, fun j hj => ?_⟩, hn, hg⟩
    have e : cur.toList[j]? = (cur.toList.take (ys.length * 1))[j]? := by rw [List.getElem?_take_of_lt (by omega)]
    rw [← Array.getElem?_toList, e, ht]
    simp [encs, hj]
set_option maxHeartbeats 16000000 in
set_option maxRecDepth 100000 in
theorem Decode2_calls (B n c sz : Nat) (ys : List Nat) (rs : List (Nat × List Nat × Nat)) (w : World) (hB : rowP w B ys) (hnc : n ≤ c) (hn : 10 + 266 * rs.length ≤ n) (hn2 : n ≤ 100000000) (hsz : sz < 4294967296) (hr : ∀ r ∈ rs, okR r)
    (hh : Has ys 0 ([22, 2] ++ (leN 4 rs.length ++ (leN 4 sz ++ rs.flatMap recOf)))) :
    Calls Tryd.prog 42 #[.slice (some ⟨B, 0, none⟩) n c] w fun e w' => ∃ SS NB, e = .returned (.tuple #[.pointer (some ⟨SS, 0, none⟩), .int .i64 ((10 + 266 * rs.length : Nat) : Int), .nilIface]) ∧ DecSt w' B SS NB ys (decT rs rs.length) rs.length rs.length rs.length (sz : Int) ∧ Below w.heap.size w w' ∧ w.heap.size ≤ SS ∧ w.heap.size ≤ NB := by
  have h2 : Has ys 2 (leN 4 rs.length ++ (leN 4 sz ++ rs.flatMap recOf)) := hh.right
  have hl : 2 ≤ ys.length := by
    have := hh.left.len
    simpa using this
  have e0 := hh.left.at 0 (by decide)
  have e1 := hh.left.at 1 (by decide)
  have c0 : w.cell? ⟨B, 0, none⟩ = some (.int .u8 22) := by
    rw [hB.cell 0 (by omega), List.getD_eq_getElem?_getD, e0]
    rfl
  have c1 : w.cell? ⟨B, 1, none⟩ = some (.int .u8 2) := by
    rw [hB.cell 1 (by omega), List.getD_eq_getElem?_getD, e1]
    rfl
  have d1 : decide ((n : Int) < 10) = false := decide_eq_false (by omega)
  have d2 : ¬ ((n : Int) < 10) := by omega
  have d3 : ¬ (n < 10) := by omega
  have d5 := eq_true (show 0 < n by omega)
  have d6 := eq_true (show 1 < n by omega)
  have d7 := eq_true (show (0 : Int) < (n : Int) by omega)
  have d8 := eq_true (show (1 : Int) < (n : Int) by omega)
  have HD := Aside0.mk (decode2_calls B n c sz ys rs w hB hnc hn hn2 hsz hr h2)
  obtain ⟨U, hU⟩ : ∃ U, U = 10 + 266 * rs.length := ⟨_, rfl⟩
  rw [← hU] at HD ⊢
  clear hB hnc hn hn2 hsz hr hh h2 hl e0 e1 hU
  go_enter Tryd.func42, Tryd.ntmps42
  go_wp2_with fail
  refine HD.out.mono ?_
  rintro e w1 ⟨SS, NB, rfl, h1⟩
  have H1 := Aside0.mk h1
  clear h1
  go_wp2_with fail
  refine bodyPost_ret (results_tmp3 rfl _ _ _) rfl ?_
  exact ⟨SS, NB, rfl, H1.out⟩
set_option maxHeartbeats 16000000 in
set_option maxRecDepth 100000 in
theorem SetDecode2_walk (A : Option Addr) (c sz : Nat) (ys : List Nat) (rs : List (Nat × List Nat × Nat)) (w : World) (hC : Kd.C (Kd.int .u8) w A (ys.map (fun n : Nat => (n : Int))).length (ys.map (fun n : Nat => (n : Int)))) (hc : (ys.map (fun n : Nat => (n : Int))).length ≤ c) (hn : 10 + 266 * rs.length ≤ ys.length) (hn2 : ys.length ≤ 100000000) (hsz : sz < 4294967296) (hr : ∀ r ∈ rs, okR r)
    (hh : Has ys 0 ([22, 2] ++ (leN 4 rs.length ++ (leN 4 sz ++ rs.flatMap recOf)))) (hfit : fitG (decT rs rs.length)) (hnum : (numsG (decT rs rs.length)).length ≤ 100000000) (hT : TabAt 3 Lib.deBruijn64tab w) :
    Calls Tryd.prog 22 #[.slice A (ys.map (fun n : Nat => (n : Int))).length c] w fun e w' => ∃ v, e = .returned (.tuple #[v, .int .i64 ((10 + 266 * rs.length : Nat) : Int), .int .i64 0]) ∧ Kd.R (Kd.int .u64) 32 w' w.heap.size (fun _ => True) v ((numsG (decT rs rs.length)).map (fun n : Nat => (n : Int))) ∧ Below w.heap.size w w' := by
  have HCP := Aside0.mk (cp_calls A c (ys.map (fun n : Nat => (n : Int))) (ys.map (fun n : Nat => (n : Int))) w hC hc (by
    unfold cp_f
    simp only [Option.bind_some, List.nil_append, List.length_nil, List.length_map]
    rw [if_pos (by omega)]))
  have HS := Aside0.mk (And.intro hn (And.intro hn2 (And.intro hsz (And.intro hr (And.intro hh (And.intro hfit (And.intro hnum hT)))))))
  clear hC hc hn hn2 hsz hr hh hfit hnum hT
  obtain ⟨L0, hL0⟩ : ∃ L0, L0 = (ys.map (fun n : Nat => (n : Int))).length := ⟨_, rfl⟩
  rw [← hL0] at HCP ⊢
  clear hL0
  obtain ⟨U, hU⟩ : ∃ U, U = 10 + 266 * rs.length := ⟨_, rfl⟩
  have HU := Aside0.mk hU
  rw [← hU]
  clear hU
  go_enter Tryd.func22, Tryd.ntmps22
  go_wp2_with fail
  refine HCP.out.mono ?_
  rintro e w1 ⟨v1, rfl, r1, b1⟩
  obtain ⟨hn, hn2, hsz, hr, hh, hfit, hnum, hT⟩ := HS.out
  obtain ⟨g, c1, rfl, hP, hgc, hg⟩ := own_rowP r1 (by omega)
  have HD := Decode2_calls g ys.length c1 sz ys rs w1 hP hgc hn hn2 hsz hr hh
  rw [← HU.out] at HD
  have HD := Aside0.mk HD
  have H1 := Aside0.mk b1
  clear r1 b1 hn hn2 hsz hr hh hfit hnum hT hP hgc hg HCP
  go_wp2_with fail
  refine HD.out.mono ?_
  rintro e w2 ⟨SS, NB, rfl, D2, b2, s2, n2⟩
  obtain ⟨hn, hn2, hsz, hr, hh, hfit, hnum, hT⟩ := HS.out
  have b02 : Below w.heap.size w w2 := below_two H1.out (below_cut b2 H1.out.size)
  have hNB : NB < w2.heap.size := by
    obtain ⟨cs, h⟩ := D2.nb
    exact (Array.getElem?_eq_some_iff.1 h).1
  have HA := Aside0.mk (allG_walk SS NB (decT rs rs.length) (sz : Int) rs.length w2 D2.ss D2.tree hfit hNB hnum (tab_below b02 hT))
  have H2 := Aside0.mk b02
  clear D2 b2 s2 n2 b02 hNB hn hn2 hsz hr hh hfit hnum hT HD
  go_wp2_with fail
  refine HA.out.mono ?_
  rintro e w3 ⟨v3, rfl, r3, b3⟩
  have H3 := Aside0.mk (And.intro r3 b3)
  clear r3 b3
  go_wp2_with fail
  refine bodyPost_ret (results_tmp3 rfl _ _ _) rfl ?_
  exact ⟨v3, rfl, Kd.R_lower H3.out.1 H2.out.size, below_two H2.out (below_cut H3.out.2 H2.out.size)⟩
/-! ### what a tree's bytes, read again, stand for -/
def recsT : Tr → List (Nat × List Nat × Nat)
  | .nil => []
  | .node _ b bs l r h => (b, bs, h.toNat) :: (recsT l ++ recsT r)
theorem preE_recs : ∀ t : Tr, preE t = (recsT t).flatMap recOf
  | .nil => rfl
  | .node _ b bs l r h => by
    rw [preE, recsT, List.flatMap_cons, List.flatMap_append, preE_recs l, preE_recs r]
    rfl
theorem recsT_len : ∀ t : Tr, (recsT t).length = t.sz
  | .nil => rfl
  | .node _ b bs l r h => by
    rw [recsT, List.length_cons, List.length_append, recsT_len l, recsT_len r, Tr.sz]
theorem recsT_ok : ∀ t : Tr, fitE t → lenE t → ∀ r ∈ recsT t, okR r
  | .nil, _, _, r, hr => absurd hr (by simp [recsT])
  | .node _ b bs l r h, ⟨h1, h2, h3, h4⟩, ⟨k1, k2, k3⟩, x, hx => by
    rw [recsT] at hx
    rcases List.mem_cons.1 hx with rfl | hx
    · exact ⟨show b < 18446744073709551616 by omega, k1, h2, show h.toNat < 65536 by omega⟩
    · rcases List.mem_append.1 hx with hx | hx
      · exact recsT_ok l h3 k2 x hx
      · exact recsT_ok r h4 k3 x hx
def apartR (a b : Nat × List Nat × Nat) : Prop := a.1 + 2048 ≤ b.1 ∨ b.1 + 2048 ≤ a.1
theorem recsT_in {lo hi : Nat} : ∀ t : Tr, t.ok lo hi → ∀ r ∈ recsT t, lo ≤ r.1 ∧ r.1 + 2048 ≤ hi
  | .nil, _, r, hr => absurd hr (by simp [recsT])
  | .node _ b bs l r h, ⟨a1, a2, a3, a4, a5, a6, a7, a8⟩, x, hx => by
    rw [recsT] at hx
    rcases List.mem_cons.1 hx with rfl | hx
    · exact ⟨a2, a3⟩
    · rcases List.mem_append.1 hx with hx | hx
      · have := recsT_in l a7 x hx; omega
      · have := recsT_in r a8 x hx; omega
theorem recsT_apart {lo hi : Nat} : ∀ t : Tr, t.ok lo hi → (recsT t).Pairwise apartR
  | .nil, _ => List.Pairwise.nil
  | .node _ b bs l r h, ⟨a1, a2, a3, a4, a5, a6, a7, a8⟩ => by
    rw [recsT, List.pairwise_cons, List.pairwise_append]
    refine ⟨fun x hx => ?_, recsT_apart l a7, recsT_apart r a8, fun x hx y hy => ?_⟩
    · rcases List.mem_append.1 hx with hx | hx
      · have := recsT_in l a7 x hx
        exact .inr (by show x.1 + 2048 ≤ b; omega)
      · have := recsT_in r a8 x hx
        exact .inl (by show b + 2048 ≤ x.1; omega)
    · have := recsT_in l a7 x hx
      have := recsT_in r a8 y hy
      exact .inl (by omega)
theorem recsT_mem : ∀ (t : Tr) (x : Nat), x ∈ t.nums ↔ ∃ r ∈ recsT t, x ∈ ownF r.1 r.2.1
  | .nil, x => by simp [Tr.nums, recsT]
  | .node _ b bs l r h, x => by
    rw [Tr.nums, recsT, List.mem_append, List.mem_append, recsT_mem l x, recsT_mem r x]
    constructor
    · rintro (⟨q, hq, hx⟩ | hx | ⟨q, hq, hx⟩)
      · exact ⟨q, by simp [hq], hx⟩
      · exact ⟨(b, bs, h.toNat), by simp, hx⟩
      · exact ⟨q, by simp [hq], hx⟩
    · rintro ⟨q, hq, hx⟩
      rcases List.mem_cons.1 hq with rfl | hq
      · exact .inr (.inl hx)
      · rcases List.mem_append.1 hq with hq | hq
        · exact .inl ⟨q, hq, hx⟩
        · exact .inr (.inr ⟨q, hq, hx⟩)
/-- A tree of read nodes, in order. -/
def okG (lo hi : Nat) : TG → Prop
  | .nil => True
  | .node _ b bs l r _ => lo ≤ b ∧ b + 2048 ≤ hi ∧ bs.length = 32 ∧ okG lo b l ∧ okG (b + 2048) hi r
def basesG : TG → List Nat
  | .nil => []
  | .node _ b _ l r _ => b :: (basesG l ++ basesG r)
theorem insG_ok {k b : Nat} {bs : List Nat} {h : Int} (hl : bs.length = 32) : ∀ (t : TG) (lo hi : Nat), okG lo hi t → lo ≤ b → b + 2048 ≤ hi → (∀ x ∈ basesG t, b + 2048 ≤ x ∨ x + 2048 ≤ b) → okG lo hi (insG k b bs h t)
  | .nil, lo, hi, _, h1, h2, _ => ⟨h1, h2, hl, trivial, trivial⟩
  | .node k' b' bs' l r h', lo, hi, ⟨a1, a2, a3, a4, a5⟩, h1, h2, hx => by
    rw [insG]
    have hb := hx b' (by simp [basesG])
    split
    · rename_i c
      exact ⟨a1, a2, a3, insG_ok hl l lo b' a4 h1 (by omega) (fun x h => hx x (by simp [basesG, h])), a5⟩
    · rename_i c
      exact ⟨a1, a2, a3, a4, insG_ok hl r (b' + 2048) hi a5 (by omega) h2 (fun x h => hx x (by simp [basesG, h]))⟩
theorem insG_bases {k b : Nat} {bs : List Nat} {h : Int} (x : Nat) : ∀ t : TG, x ∈ basesG (insG k b bs h t) → x = b ∨ x ∈ basesG t
  | .nil, hx => .inl (by simpa [insG, basesG] using hx)
  | .node k' b' bs' l r h', hx => by
    rw [insG] at hx
    split at hx
    · simp only [basesG, List.mem_cons, List.mem_append] at hx ⊢
      rcases hx with hx | hx | hx
      · exact .inr (.inl hx)
      · rcases insG_bases x l hx with e | e
        · exact .inl e
        · exact .inr (.inr (.inl e))
      · exact .inr (.inr (.inr hx))
    · simp only [basesG, List.mem_cons, List.mem_append] at hx ⊢
      rcases hx with hx | hx | hx
      · exact .inr (.inl hx)
      · exact .inr (.inr (.inl hx))
      · rcases insG_bases x r hx with e | e
        · exact .inl e
        · exact .inr (.inr (.inr e))
theorem insG_mem {k b : Nat} {bs : List Nat} {h : Int} (x : Nat) : ∀ t : TG, x ∈ numsG (insG k b bs h t) ↔ x ∈ ownW b bs ∨ x ∈ numsG t
  | .nil => by simp [insG, numsG]
  | .node k' b' bs' l r h' => by
    rw [insG]
    split
    · simp only [numsG, List.mem_append, insG_mem x l]
      constructor
      · rintro ((h | h) | h)
        · exact .inl h
        · exact .inr (.inl h)
        · exact .inr (.inr h)
      · rintro (h | h | h)
        · exact .inl (.inl h)
        · exact .inl (.inr h)
        · exact .inr h
    · simp only [numsG, List.mem_append, insG_mem x r]
      constructor
      · rintro (h | h | h | h)
        · exact .inr (.inl h)
        · exact .inr (.inr (.inl h))
        · exact .inl h
        · exact .inr (.inr (.inr h))
      · rintro (h | h | h | h)
        · exact .inr (.inr (.inl h))
        · exact .inl h
        · exact .inr (.inl h)
        · exact .inr (.inr (.inr h))
theorem insG_fit {k b : Nat} {bs : List Nat} {h : Int} (h1 : b < 18446744073709551616) (h2 : bs.length = 32) (h3 : ∀ z ∈ bs, z < 18446744073709551616) : ∀ t : TG, fitG t → fitG (insG k b bs h t)
  | .nil, _ => ⟨h1, h2, h3, trivial, trivial⟩
  | .node k' b' bs' l r h', ⟨a1, a2, a3, a4, a5⟩ => by
    rw [insG]
    split
    · exact ⟨a1, a2, a3, insG_fit h1 h2 h3 l a4, a5⟩
    · exact ⟨a1, a2, a3, a4, insG_fit h1 h2 h3 r a5⟩
theorem ownW_own : ∀ (bs : List Nat) (b : Nat), b + 64 * bs.length ≤ 18446744073709551616 → ownW b bs = ownF b bs
  | [], b, _ => rfl
  | z :: bs, b, h => by
    rw [List.length_cons] at h
    rw [ownW, ownF, ownW_own bs (b + 64) (by omega)]
    congr 1
    apply List.map_congr_left
    intro j hj
    have := (mem_bits z j).1 hj
    exact Nat.mod_eq_of_lt (by omega)
theorem numsG_in {lo hi : Nat} (hh : hi ≤ 18446744073709551616) : ∀ t : TG, okG lo hi t → ∀ x ∈ numsG t, lo ≤ x ∧ x < hi
  | .nil, _, x, hx => absurd hx (by simp [numsG])
  | .node _ b bs l r _, ⟨a1, a2, a3, a4, a5⟩, x, hx => by
    rw [numsG, List.mem_append, List.mem_append] at hx
    rcases hx with h | h | h
    · have := numsG_in (by omega) l a4 x h; omega
    · rw [ownW_own bs b (by omega)] at h
      have := mem_ownF bs b x h; omega
    · have := numsG_in hh r a5 x h; omega
theorem numsG_sorted {lo hi : Nat} (hh : hi ≤ 18446744073709551616) : ∀ t : TG, okG lo hi t → (numsG t).Pairwise (· < ·)
  | .nil, _ => List.Pairwise.nil
  | .node _ b bs l r _, ⟨a1, a2, a3, a4, a5⟩ => by
    rw [numsG, List.pairwise_append, List.pairwise_append]
    have ho : ownW b bs = ownF b bs := ownW_own bs b (by omega)
    refine ⟨numsG_sorted (by omega) l a4, ⟨by rw [ho]; exact ownF_sorted bs b, numsG_sorted hh r a5, fun x hx y hy => ?_⟩, fun x hx y hy => ?_⟩
    · rw [ho] at hx
      have := mem_ownF bs b x hx
      have := numsG_in hh r a5 y hy
      omega
    · have := numsG_in (by omega) l a4 x hx
      rw [List.mem_append] at hy
      rcases hy with h | h
      · rw [ho] at h
        have := mem_ownF bs b y h; omega
      · have := numsG_in hh r a5 y h; omega
theorem decT_all {hi : Nat} (rs : List (Nat × List Nat × Nat)) (hap : rs.Pairwise apartR) (hin : ∀ r ∈ rs, r.1 + 2048 ≤ hi) (hok : ∀ r ∈ rs, okR r) : ∀ k, k ≤ rs.length →
    okG 0 hi (decT rs k) ∧ fitG (decT rs k) ∧ (∀ x ∈ basesG (decT rs k), ∃ j, j < k ∧ ∃ r, rs[j]? = some r ∧ x = r.1) ∧ ∀ x, x ∈ numsG (decT rs k) ↔ ∃ r ∈ rs.take k, x ∈ ownW r.1 r.2.1
  | 0, _ => ⟨trivial, trivial, fun x hx => absurd hx (by simp [decT, basesG]), fun x => by simp [decT, numsG]⟩
  | k + 1, hk => by
    obtain ⟨h1, h2, h3, h4⟩ := decT_all rs hap hin hok k (by omega)
    have hlt : k < rs.length := by omega
    have e : rs[k]? = some rs[k] := List.getElem?_eq_getElem hlt
    have hm : rs[k] ∈ rs := List.getElem_mem hlt
    have hr := hok _ hm
    have et : decT rs (k + 1) = insG k rs[k].1 rs[k].2.1 (rs[k].2.2 : Int) (decT rs k) := by rw [decT, e]
    rw [et]
    refine ⟨insG_ok hr.2.1 _ 0 hi h1 (Nat.zero_le _) (hin _ hm) (fun x hx => ?_), insG_fit hr.1 hr.2.1 hr.2.2.1 _ h2, fun x hx => ?_, fun x => ?_⟩
    · obtain ⟨j, hj, r, er, rfl⟩ := h3 x hx
      have hjl : j < rs.length := by omega
      rw [List.getElem?_eq_getElem hjl] at er
      injection er with er
      subst er
      rcases List.pairwise_iff_getElem.1 hap j k hjl hlt hj with q | q
      · exact .inr q
      · exact .inl q
    · rcases insG_bases x _ hx with rfl | hx
      · exact ⟨k, by omega, _, e, rfl⟩
      · obtain ⟨j, hj, r, er, q⟩ := h3 x hx
        exact ⟨j, by omega, r, er, q⟩
    · rw [insG_mem, h4 x, List.take_succ_eq_append_getElem hlt]
      constructor
      · rintro (h | ⟨r, hr, h⟩)
        · exact ⟨rs[k], List.mem_append_right _ List.mem_cons_self, h⟩
        · exact ⟨r, List.mem_append_left _ hr, h⟩
      · rintro ⟨r, hr, h⟩
        rcases List.mem_append.1 hr with hr | hr
        · exact .inr ⟨r, hr, h⟩
        · rw [List.mem_singleton.1 hr] at h
          exact .inl h
theorem sorted_ext : ∀ (A B : List Nat), A.Pairwise (· < ·) → B.Pairwise (· < ·) → (∀ x, x ∈ A ↔ x ∈ B) → A = B
  | [], [], _, _, _ => rfl
  | [], b :: B, _, _, h => absurd ((h b).2 List.mem_cons_self) (by simp)
  | a :: A, [], _, _, h => absurd ((h a).1 List.mem_cons_self) (by simp)
  | a :: A, b :: B, hA, hB, h => by
    obtain ⟨a1, a2⟩ := List.pairwise_cons.1 hA
    obtain ⟨b1, b2⟩ := List.pairwise_cons.1 hB
    have e : a = b := by
      rcases List.mem_cons.1 ((h a).1 List.mem_cons_self) with e | e
      · exact e
      · rcases List.mem_cons.1 ((h b).2 List.mem_cons_self) with e' | e'
        · exact e'.symm
        · have := a1 b e'; have := b1 a e; omega
    subst e
    rw [sorted_ext A B a2 b2 (fun x => ?_)]
    constructor
    · intro hx
      rcases List.mem_cons.1 ((h x).1 (List.mem_cons_of_mem _ hx)) with e | e
      · have := a1 x hx; omega
      · exact e
    · intro hx
      rcases List.mem_cons.1 ((h x).2 (List.mem_cons_of_mem _ hx)) with e | e
      · have := b1 x hx; omega
      · exact e
theorem decT_nums (t : Tr) (hok : t.ok 0 top64) (hE : fitE t) (hL : lenE t) : numsG (decT (recsT t) (recsT t).length) = t.nums ∧ fitG (decT (recsT t) (recsT t).length) := by
  obtain ⟨h1, h2, _, h4⟩ := decT_all (hi := top64) (recsT t) (recsT_apart t hok) (fun r hr => (recsT_in t hok r hr).2) (recsT_ok t hE hL) (recsT t).length (Nat.le_refl _)
  refine ⟨sorted_ext _ _ (numsG_sorted (by decide) _ h1) (nums_sorted t hok) (fun x => ?_), h2⟩
  rw [h4 x, recsT_mem, List.take_length]
  constructor
  · rintro ⟨r, hr, h⟩
    have hi := (recsT_in t hok r hr).2
    have hl := (recsT_ok t hE hL r hr).2.1
    rw [ownW_own _ _ (by rw [hl]; unfold top64 at hi; omega)] at h
    exact ⟨r, hr, h⟩
  · rintro ⟨r, hr, h⟩
    have hi := (recsT_in t hok r hr).2
    have hl := (recsT_ok t hE hL r hr).2.1
    rw [← ownW_own _ _ (by rw [hl]; unfold top64 at hi; omega)] at h
    exact ⟨r, hr, h⟩
/-! ### the bytes taken apart -/
def leV : List Nat → Nat
  | [] => 0
  | z :: zs => z + 256 * leV zs
theorem leV_leN : ∀ (k v : Nat), v < 256 ^ k → leV (leN k v) = v
  | 0, v, h => by
    have : v = 0 := by simpa using h
    subst this
    rfl
  | k + 1, v, h => by
    have h2 : v / 256 < 256 ^ k := by
      rw [Nat.pow_succ] at h
      exact Nat.div_lt_of_lt_mul (by rw [Nat.mul_comm]; exact h)
    have e : leN (k + 1) v = v % 256 :: leN k (v / 256) := by
      rw [leN, Lib.leBytes, List.map_cons, Lib.toUInt8_mod]
      rfl
    rw [e, leV, leV_leN k _ h2]
    omega
def natAt (ys : List Nat) (i k : Nat) : Nat := leV ((ys.drop i).take k)
theorem natAt_has {ys : List Nat} {i k v : Nat} (h : Has ys i (leN k v)) (hv : v < 256 ^ k) : natAt ys i k = v := by
  obtain ⟨A, C, e, hl⟩ := h
  rw [natAt, e, ← hl, List.drop_left, List.take_left' (leN_len k v), leV_leN k v hv]
def recAt (ys : List Nat) (p : Nat) : Nat × List Nat × Nat := (natAt ys p 8, (List.range 32).map (fun j => natAt ys (p + 8 + 8 * j) 8), natAt ys (p + 264) 2)
theorem recAt_has {ys : List Nat} {p : Nat} {r : Nat × List Nat × Nat} (h : Has ys p (recOf r)) (hr : okR r) : recAt ys p = r := by
  obtain ⟨b, bs, ht⟩ := r
  obtain ⟨h1, h2, h3, h4⟩ := hr
  have hb := natAt_has h.left h1
  have hh : Has ys (p + 264) (leN 2 ht) := by
    have := h.right.right
    rw [leN_len, flat_len] at this
    have e : (bs : List Nat).length = 32 := h2
    rw [show (b, bs, ht).2.1 = bs from rfl, e] at this
    exact this
  have hz : (List.range 32).map (fun j => natAt ys (p + 8 + 8 * j) 8) = bs := by
    apply List.ext_getElem
    · simpa using h2.symm
    · intro j g1 g2
      have hm := h.right.left
      rw [leN_len] at hm
      have := Has.flat (leN 8) 8 bs (p + 8) (fun r _ => leN_len 8 r) hm j bs[j] (List.getElem?_eq_getElem g2)
      rw [List.getElem_map, List.getElem_range]
      exact natAt_has this (h3 _ (List.getElem_mem g2))
  rw [recAt, hb, hz, natAt_has hh h4]
def recsAt (ys : List Nat) (n : Nat) : List (Nat × List Nat × Nat) := (List.range n).map (fun k => recAt ys (10 + 266 * k))
theorem recsAt_has {ys : List Nat} {rs : List (Nat × List Nat × Nat)} (h : Has ys 10 (rs.flatMap recOf)) (hr : ∀ r ∈ rs, okR r) : recsAt ys rs.length = rs := by
  apply List.ext_getElem
  · simp [recsAt]
  · intro k g1 g2
    have := Has.flat recOf 266 rs 10 (fun r h => recN_len (hr r h).2.1) h k rs[k] (List.getElem?_eq_getElem g2)
    simp only [recsAt, List.getElem_map, List.getElem_range]
    exact recAt_has this (hr _ (List.getElem_mem g2))
def okRb (r : Nat × List Nat × Nat) : Bool := decide (r.1 < 18446744073709551616) && (decide (r.2.1.length = 32) && ((r.2.1.all fun z => decide (z < 18446744073709551616)) && decide (r.2.2 < 65536)))
theorem okRb_ok {r : Nat × List Nat × Nat} (h : okRb r = true) : okR r := by
  simp only [okRb, Bool.and_eq_true, decide_eq_true_eq, List.all_eq_true] at h
  exact ⟨h.1, h.2.1, h.2.2.1, h.2.2.2⟩
theorem okR_okb {r : Nat × List Nat × Nat} (h : okR r) : okRb r = true := by
  simp only [okRb, Bool.and_eq_true, decide_eq_true_eq, List.all_eq_true]
  exact ⟨h.1, h.2.1, h.2.2.1, h.2.2.2⟩
def headOf (rs : List (Nat × List Nat × Nat)) (sz : Nat) : List Nat := [22, 2] ++ (leN 4 rs.length ++ (leN 4 sz ++ rs.flatMap recOf))
/-- What bytes of version 2 say, where they are whole. -/
def dec2 (ys : List Nat) : Option (List Nat × Nat) :=
  if ys.take (headOf (recsAt ys (natAt ys 2 4)) (natAt ys 6 4)).length = headOf (recsAt ys (natAt ys 2 4)) (natAt ys 6 4) ∧ 10 + 266 * natAt ys 2 4 ≤ ys.length ∧ ys.length ≤ 100000000 ∧ natAt ys 6 4 < 4294967296 ∧ (recsAt ys (natAt ys 2 4)).all okRb = true ∧ (numsG (decT (recsAt ys (natAt ys 2 4)) (recsAt ys (natAt ys 2 4)).length)).length ≤ 100000000 then
    some (numsG (decT (recsAt ys (natAt ys 2 4)) (recsAt ys (natAt ys 2 4)).length), 10 + 266 * natAt ys 2 4) else none
theorem decT_fit (rs : List (Nat × List Nat × Nat)) (hok : ∀ r ∈ rs, okR r) : ∀ k, fitG (decT rs k)
  | 0 => trivial
  | k + 1 => by
    rw [decT]
    split
    · rename_i r e
      have hr := hok r (List.mem_of_getElem? e)
      exact insG_fit hr.1 hr.2.1 hr.2.2.1 _ (decT_fit rs hok k)
    · exact decT_fit rs hok k
theorem recsAt_len (ys : List Nat) (n : Nat) : (recsAt ys n).length = n := by simp [recsAt]
theorem SetDecode_dec (A : Option Addr) (c : Nat) (ys : List Nat) (L : List Nat) (used : Nat) (w : World) (hC : Kd.C (Kd.int .u8) w A (ys.map (fun n : Nat => (n : Int))).length (ys.map (fun n : Nat => (n : Int)))) (hc : (ys.map (fun n : Nat => (n : Int))).length ≤ c) (hd : dec2 ys = some (L, used)) (hT : TabAt 3 Lib.deBruijn64tab w) :
    Calls Tryd.prog 22 #[.slice A (ys.map (fun n : Nat => (n : Int))).length c] w fun e w' => ∃ v, e = .returned (.tuple #[v, .int .i64 (used : Int), .int .i64 0]) ∧ Kd.R (Kd.int .u64) 32 w' w.heap.size (fun _ => True) v (L.map (fun n : Nat => (n : Int))) ∧ Below w.heap.size w w' := by
  unfold dec2 at hd
  split at hd
  · rename_i h
    obtain ⟨h1, h2, h3, h4, h5, h6⟩ := h
    injection hd with hd
    injection hd with hd1 hd2
    subst hd1 hd2
    have hlen := recsAt_len ys (natAt ys 2 4)
    have hok : ∀ r ∈ recsAt ys (natAt ys 2 4), okR r := fun r hr => okRb_ok (List.all_eq_true.1 h5 r hr)
    have hh : Has ys 0 (headOf (recsAt ys (natAt ys 2 4)) (natAt ys 6 4)) := ⟨[], ys.drop (headOf (recsAt ys (natAt ys 2 4)) (natAt ys 6 4)).length, by
      have := List.take_append_drop (headOf (recsAt ys (natAt ys 2 4)) (natAt ys 6 4)).length ys
      rw [h1] at this
      rw [List.nil_append]
      exact this.symm, rfl⟩
    have := SetDecode2_walk A c (natAt ys 6 4) ys (recsAt ys (natAt ys 2 4)) w hC hc (by rw [hlen]; exact h2) h3 h4 hok hh (decT_fit _ hok _) h6 hT
    rw [show 10 + 266 * (recsAt ys (natAt ys 2 4)).length = 10 + 266 * natAt ys 2 4 by rw [hlen]] at this
    exact this
  · cases hd
theorem dec2_enc (t : Tr) (L behind : List Nat) (hok : t.ok 0 top64) (hE : fitE t) (hL : lenE t) (hn : t.nums = L) (hsz : t.sz ≤ 10000) (hLl : L.length ≤ 10000) (hb : behind.length ≤ 1000) : dec2 (encN t L ++ behind) = some (L, 10 + 266 * t.sz) := by
  obtain ⟨ys, hys⟩ : ∃ ys, ys = encN t L ++ behind := ⟨_, rfl⟩
  rw [← hys]
  have hR := recsT_ok t hE hL
  have hl := recsT_len t
  have hh : Has ys 0 (headOf (recsT t) L.length) := ⟨[], behind, by rw [hys, encN, headOf, preE_recs, hl]; simp, rfl⟩
  have e1 : natAt ys 2 4 = t.sz := by
    rw [← hl]
    exact natAt_has hh.right.left (by rw [hl]; omega)
  have e2 : natAt ys 6 4 = L.length := by
    have := hh.right.right.left
    rw [leN_len] at this
    exact natAt_has this (by omega)
  have e3 : recsAt ys t.sz = recsT t := by
    have := hh.right.right.right
    rw [leN_len, leN_len] at this
    rw [← hl]
    exact recsAt_has this hR
  have elen : ys.length = 10 + 266 * t.sz + behind.length := by
    rw [hys, List.length_append, encN, List.length_append, List.length_append, List.length_append, leN_len, leN_len, preE_len t hL]
    simp only [List.length_cons, List.length_nil]
    omega
  obtain ⟨n1, n2⟩ := decT_nums t hok hE hL
  unfold dec2
  rw [e1, e2, e3, n1, hn, if_pos]
  refine ⟨?_, by omega, by omega, by omega, List.all_eq_true.2 (fun r hr => okR_okb (hR r hr)), by omega⟩
  rw [hys, show encN t L = headOf (recsT t) L.length by rw [encN, headOf, preE_recs, hl]]
  exact List.take_left

end Go.Proofs.YtjhdnapgdajllaaDoor.SetDecV
