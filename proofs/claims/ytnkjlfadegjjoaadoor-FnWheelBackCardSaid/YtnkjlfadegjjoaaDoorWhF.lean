/- WALKS: the law of a wheel that is written and read again. -/
import Derived.Test.YtnkjlfadegjjoaaDoorProg
import Derived.Below
import Derived.Deep.Draws
import Derived.Deep.AppendLies
import Derived.Maps.AppendAt
import Derived.OwnWalk
import Derived.Laws.BytesArg
import Derived.Laws.MakeOwn
import Derived.Laws.OwnMore
import Derived.Deep.OwnRows
import Derived.Tactics
import Derived.Lib.ConvBytes
import Derived.Laws.Slices
import Derived.WalkKit
import Derived.KernelRfl
import Derived.RowKit3
import Derived.Deep.LoopGhost
import Derived.Deep.QuietTactic
import Derived.BigQuiet
import Derived.WideLaws
import Derived.Deep.DeepCutAuto
import Derived.Deep.CutBlock
import Derived.Deep.RegionHeld3
import Derived.Laws.Rows
import Derived.Lib.AppendStr
import Derived.ArgAppend
import Derived.Laws.IdiomCopy
import Derived.OrdersHeld
import Derived.Laws.BitsLemmas
import Derived.RowKit
import Derived.Test.YtnkjlfadegjjoaaDoorWWords
import Derived.Test.YtnkjlfadegjjoaaDoorWLast
import Derived.Test.YtnkjlfadegjjoaaDoorWTab
import Derived.Test.YtnkjlfadegjjoaaDoorWFour
import Derived.Test.YtnkjlfadegjjoaaDoorWQPut
import Derived.Test.YtnkjlfadegjjoaaDoorWApart
import Derived.Test.YtnkjlfadegjjoaaDoorWArr
import Derived.Test.YtnkjlfadegjjoaaDoorWZeros
import Derived.Test.YtnkjlfadegjjoaaDoorWFoot
import Derived.Test.YtnkjlfadegjjoaaDoorWKept
import Derived.Test.YtnkjlfadegjjoaaDoorWShare
import Derived.Test.YtnkjlfadegjjoaaDoorWN
import Derived.Test.YtnkjlfadegjjoaaDoorWFootNe
import Derived.Test.YtnkjlfadegjjoaaDoorWAt
import Derived.Test.YtnkjlfadegjjoaaDoorWEqStruct
import Derived.Test.YtnkjlfadegjjoaaDoorWRepsOne
import Derived.Test.YtnkjlfadegjjoaaDoorWInv
import Derived.Test.YtnkjlfadegjjoaaDoorWInvWords
import Derived.Test.YtnkjlfadegjjoaaDoorWGuard
import Derived.Test.YtnkjlfadegjjoaaDoorWNEv
import Derived.Test.YtnkjlfadegjjoaaDoorWMore
import Derived.Test.YtnkjlfadegjjoaaDoorWhE
namespace Go.Proofs.YtnkjlfadegjjoaaDoor.WhF
open Go.RowKit Go.Proofs.YtnkjlfadegjjoaaDoorW.PrintWords Go.Proofs.YtnkjlfadegjjoaaDoorW.PrintLast Go.Proofs.YtnkjlfadegjjoaaDoorW.PrintMore
attribute [local go_sem] max2_int min2_int max_two min_two max_three min_three max_four min_four   -- for this text's walks alone
set_option linter.unusedVariables false
set_option linter.unusedSimpArgs false



open Go.Maps
open _root_.Go.Proofs.YtnkjlfadegjjoaaDoor.WhA
open _root_.Go.Proofs.YtnkjlfadegjjoaaDoor.WhB
open _root_.Go.Proofs.YtnkjlfadegjjoaaDoor.WhC
open _root_.Go.Proofs.YtnkjlfadegjjoaaDoor.WhS
open _root_.Go.Proofs.YtnkjlfadegjjoaaDoor.WhP
open _root_.Go.Proofs.YtnkjlfadegjjoaaDoor.WhT
open _root_.Go.Proofs.YtnkjlfadegjjoaaDoor.WhE
/-! ### impl.WheelBack -/
theorem WheelAt.chB {N B B' hb : Nat} {w w' : World} {ex : Prop} {l : List Tk} (h : WheelAt N w B hb ex l) (hc : ChB B' w w') : WheelAt N w' B hb ex l := h.keep (fun k o ho hk => hc.keep k o ho (wk_of_wm hk))
set_option maxHeartbeats 16000000 in
set_option maxRecDepth 100000 in
theorem back_calls (ts us : List Trn) (A A2 : Option Addr) (c c2 high : Nat) (w : World) (hC : Kd.C kTr w A ts.length ts) (hc : ts.length ≤ c) (hC2 : Kd.C kTr w A2 us.length us) (hc2 : us.length ≤ c2) (hE : WLaid w) (hG : GoodR [] ts) (hN : ts.length < 100000) (hN2 : us.length < 100000)
    (hu : ∀ l', (runW [] ts).1.Perm l' → GoodR l' us) (hh : high < 18446744073709551616) :
    Calls Tryd.prog 13 #[.slice A ts.length c, .int .u64 (high : Int), .slice A2 us.length c2] w fun en w' => ∃ l' v rs, (runW [] ts).1.Perm l' ∧ en = .returned (.tuple #[.int .u64 (high : Int), v, .int .i64 ((runW l' us).1.length : Int), .int .i64 0]) ∧ AnsAll rs (runW l' us).2 ∧ Kd.R kA 37 w' w.heap.size (fun _ => True) v rs ∧ Below w.heap.size w w' := by
  have HN := Aside0.mk (fun w => new_calls w)
  have hT : ∀ w1, Below w.heap.size w w1 → WheelAt 0 w1 w.heap.size (w.heap.size + 1) True [] → _ := fun w1 h1 h2 => turn_calls 0 (w.heap.size + 1) True [] ts A c w w1 hC hc h1 h2 hE hG (by omega) (by simp only [List.length_nil]; omega)
  have hll : (runW [] ts).1.length ≤ ts.length := by have := runW_len ts []; simpa using this
  have HT := Aside0.mk hT
  have HA := Aside0.mk (And.intro hC2 (And.intro hc2 (And.intro hE (And.intro hN (And.intro hN2 (And.intro hu (And.intro hh hll)))))))
  clear hC hc hC2 hc2 hE hG hN hN2 hT hu hh hll
  go_enter Tryd.func13, Tryd.ntmps13
  go_wp2_with fail
  refine (HN.out w).mono ?_
  rintro en w1 ⟨rfl, h1, b1⟩
  have H1 := Aside0.mk (And.intro h1 b1)
  clear h1 b1
  go_wp2_with fail
  refine (HT.out w1 H1.out.2 H1.out.1).mono ?_
  rintro en w2 ⟨v2, rs2, rfl, h2, -, -, b2⟩
  have H2 := Aside0.mk (And.intro h2 b2)
  clear h2 b2
  go_wp2_with fail
  refine (HN.out w2).mono ?_
  rintro en w3 ⟨rfl, h3, b3⟩
  have H3 := Aside0.mk (And.intro h3 (And.intro b3 (H2.out.1.keep (w' := w3) (fun k o ho _ => (b3.block k (Array.getElem?_eq_some_iff.1 ho).1).trans ho))))
  have HC4 := Aside0.mk (enc_calls _ _ _ _ _ high w3 H3.out.2.2 HA.out.2.2.2.2.2.2.1)
  obtain ⟨hb2, hhb⟩ : ∃ hb2, hb2 = w2.heap.size + 1 := ⟨_, rfl⟩
  rw [← hhb]
  rw [← hhb] at H3
  have HHB := Aside0.mk hhb
  clear h3 b3 hhb
  go_wp2_with fail
  refine HC4.out.mono ?_
  rintro en w4 ⟨v4, xs, rfl, hp, ho4, hch4⟩
  have hall := wheel_all H3.out.2.2
  have hxl : xs.length = (runW [] ts).1.length := hp.length_eq
  rw [← hxl] at ho4
  have hxs : xs.length ≤ ts.length := by rw [hxl]; exact HA.out.2.2.2.2.2.2.2
  have HX := Aside0.mk (And.intro hp hxs)
  have hb34 : Below w2.heap.size w2 w4 := H3.out.2.1.trans ((hch4.below (Nat.le_refl _)).mono H3.out.2.1.size)
  have HC5 := Aside0.mk (dec_calls 0 w2.heap.size hb2 xs high w3.heap.size v4 w4 (WheelAt.chB H3.out.1 hch4) hb34.size ho4 (fun y hy => hall.1 y (hp.mem_iff.1 hy)) ((hp.map _).nodup_iff.2 hall.2) (by have := HA.out.2.2.2.1; omega) HA.out.2.2.2.2.2.2.1)
  have H4 := Aside0.mk hb34
  clear hp ho4 hch4 hall hxl hxs hb34 HC4
  go_wp2_with fail
  refine HC5.out.mono ?_
  rintro en w5 ⟨rfl, h5, hch5⟩
  have hb25 : Below w2.heap.size w2 w5 := H4.out.trans (hch5.below H4.out.size)
  have H5 := Aside0.mk (And.intro h5 hb25)
  have HC6 := Aside0.mk (turn_calls xs.length hb2 True xs.reverse us A2 c2 w2 w5 (Kd.C_below HA.out.1 H2.out.2) HA.out.2.1 hb25 h5 (HA.out.2.2.1.below H2.out.2) (HA.out.2.2.2.2.2.1 _ (HX.out.1.symm.trans (List.reverse_perm xs).symm)) (by have := HX.out.2; have := HA.out.2.2.2.1; have := HA.out.2.2.2.2.1; omega) (by rw [List.length_reverse]; have := HX.out.2; have := HA.out.2.2.2.1; have := HA.out.2.2.2.2.1; omega))
  clear h5 hch5 hb25 HC5
  go_wp2_with fail
  refine HC6.out.mono ?_
  rintro en w6 ⟨v6, rs, rfl, h6, a6, r6, b6⟩
  obtain ⟨A6, c6, hv⟩ := Kd.R_slice r6
  obtain ⟨a, lo, hd, -, -, hlen, -⟩ := wheel_head h6
  obtain ⟨n, hn⟩ : ∃ n, n = (runW xs.reverse us).1.length := ⟨_, rfl⟩
  rw [← hn] at hd hlen
  have hws : w.heap.size ≤ w5.heap.size := Nat.le_trans H2.out.2.size H5.out.2.size
  have H6 := Aside0.mk (And.intro a6 (And.intro (R_any r6 hws) (And.intro (H2.out.2.trans (b6.mono H2.out.2.size)) hn)))
  have HC7 := Aside0.mk (count_calls w6 hb2 a (.int .i64 lo) (.int .u64 (n : Int)) hd)
  have HEE := Aside0.mk (And.intro (Road.wi64 (n : Int) (n : Int) rfl (by omega) (by omega)) (Road.w64 (n : Int) (n : Int) rfl (by omega) (by omega)))
  clear h6 a6 r6 b6 hd hlen hws hn HC6
  have e1 := HEE.out.1
  have e2 := HEE.out.2
  subst hv
  go_wp2_with fail
  refine HC7.out.mono ?_
  rintro en w7 ⟨rfl, hw7⟩
  subst hw7
  go_wp2_with fail
  refine bodyPost_ret (Road.results_tmp4 rfl _ _ _) rfl ?_
  obtain ⟨q1, q2, q3, q4⟩ := H6.out
  refine ⟨xs.reverse, _, rs, HX.out.1.symm.trans (List.reverse_perm xs).symm, ?_, q1, q2, q3⟩
  rw [← q4]
  rfl
/-! ### FnWheelBack -/
theorem GoodP_append : ∀ (ts us : List Trn) (l : List Tk), GoodP l (ts ++ us) ↔ GoodP l ts ∧ GoodP (specR l ts).1 us
  | [], us, l => by simp [GoodP, specR]
  | t :: ts, us, l => by rw [List.cons_append, GoodP, GoodP_append ts us, GoodP, specR]; exact and_assoc.symm
structure BackP (ts us : List Trn) : Prop where
  good : GoodR [] ts
  hu : ∀ l', (runW [] ts).1.Perm l' → GoodR l' us
  rel : ∀ l', (runW [] ts).1.Perm l' → AnsAll (runW l' us).2 ((specR [] (ts ++ us)).2.drop ts.length) ∧ (runW l' us).1.length = (specR [] (ts ++ us)).1.length
  nd : ∀ i, i < ((specR [] (ts ++ us)).2.drop ts.length).length → ((((specR [] (ts ++ us)).2.drop ts.length).getD i dA).2.map (·.1)).Nodup ∧ (((specR [] (ts ++ us)).2.drop ts.length).getD i dA).2.length ≤ ts.length + us.length
theorem backP {ts us : List Trn} (hP : GoodP [] (ts ++ us)) : BackP ts us := by
  obtain ⟨h1, h2⟩ := (GoodP_append ts us []).1 hP
  obtain ⟨p1, -, p3, p4, -⟩ := run_rel ts [] [] h1 ⟨List.nodup_nil, fun y h => by simp at h⟩ (List.Perm.refl _)
  have hd : (specR [] (ts ++ us)).2.drop ts.length = (specR (specR [] ts).1 us).2 := by
    rw [specR_append]
    show ((specR [] ts).2 ++ (specR (specR [] ts).1 us).2).drop ts.length = _
    rw [List.drop_append_of_le_length (by rw [specR_alen]; exact Nat.le_refl _), List.drop_of_length_le (by rw [specR_alen]; exact Nat.le_refl _), List.nil_append]
  have hlen : (specR [] ts).1.length ≤ ts.length := by
    rw [p1.length_eq]
    have := runW_len ts []
    simpa using this
  have hq := fun l' (hl : (runW [] ts).1.Perm l') => run_rel us (specR [] ts).1 l' h2 p4 (p1.trans hl)
  refine ⟨p3, fun l' hl => (hq l' hl).2.2.1, fun l' hl => ?_, fun i hi => ?_⟩
  · obtain ⟨q1, q2, -, -, -⟩ := hq l' hl
    rw [hd]
    refine ⟨q2, ?_⟩
    rw [specR_append]
    exact q1.length_eq.symm
  · rw [hd] at hi ⊢
    obtain ⟨-, -, -, -, q5⟩ := hq _ (List.Perm.refl _)
    have := q5 i hi
    exact ⟨this.1, Nat.le_trans this.2 (by omega)⟩
theorem infoTr : (Tryd.prog.info? 34).map (fun i => (i.zero, i.size, i.bytes)) = some (some (.agg #[.int .i64 0, .int .u64 0, .int .i64 0, .int .i64 0, .bool false]), 5, 40) := by kernel_rfl
set_option maxHeartbeats 40000000 in
set_option maxRecDepth 100000 in
theorem backlaw_calls (ts us : List Trn) (A A2 : Option Addr) (c c2 high : Nat) (w : World) (hC : Kd.C kTr w A ts.length ts) (hc : ts.length ≤ c) (hC2 : Kd.C kTr w A2 us.length us) (hc2 : us.length ≤ c2) (hE : WLaid w) (hw : ∀ i, i < (ts ++ us).length → wfU (rdTr (ts ++ us) i).2.1) (hh : high < 18446744073709551616) :
    Calls Tryd.prog 5 #[.slice A ts.length c, .int .u64 (high : Int), .slice A2 us.length c2] w fun en w' => en = .returned (.bool true) ∧ Below w.heap.size w w' := by
  have HA := Aside0.mk (And.intro hC (And.intro hc (And.intro hC2 (And.intro hc2 (And.intro hE (And.intro hw hh))))))
  by_cases hm : 2147483647 < ts.length
  · have n1 := eq_true (show 2147483647 < (ts.length : Int) by omega)
    have n2 := eq_true hm
    have n3 : decide (2147483647 < (ts.length : Int)) = true := decide_eq_true (show 2147483647 < (ts.length : Int) by omega)
    clear hm hC hc hE hw hC2 hc2 hh
    go_enter Tryd.func5, Tryd.ntmps5
    go_wp2_with fail
    go_ret
    exact ⟨rfl, Below.refl _ _⟩
  · by_cases hm2 : 2147483647 < us.length
    · have n1 := eq_false (show ¬ 2147483647 < (ts.length : Int) by omega)
      have n2 := eq_false hm
      have n3 : decide (2147483647 < (ts.length : Int)) = false := decide_eq_false (show ¬ 2147483647 < (ts.length : Int) by omega)
      have m1 := eq_true (show 2147483647 < (us.length : Int) by omega)
      have m2 := eq_true hm2
      have m3 : decide (2147483647 < (us.length : Int)) = true := decide_eq_true (show 2147483647 < (us.length : Int) by omega)
      clear hm hm2 hC hc hE hw hC2 hc2 hh
      go_enter Tryd.func5, Tryd.ntmps5
      go_wp2_with fail
      go_ret
      exact ⟨rfl, Below.refl _ _⟩
    · have n1 := eq_false (show ¬ 2147483647 < (ts.length : Int) by omega)
      have n2 := eq_false hm
      have n3 : decide (2147483647 < (ts.length : Int)) = false := decide_eq_false (show ¬ 2147483647 < (ts.length : Int) by omega)
      have m1 := eq_false (show ¬ 2147483647 < (us.length : Int) by omega)
      have m2 := eq_false hm2
      have m3 : decide (2147483647 < (us.length : Int)) = false := decide_eq_false (show ¬ 2147483647 < (us.length : Int) by omega)
      have HM := Aside0.mk (And.intro hm hm2)
      clear hm hm2 hC hc hE hw hC2 hc2 hh
      go_enter Tryd.func5, Tryd.ntmps5
      go_upto_region 4 with (first | ((with_reducible refine gate_dst (N := 22) rfl ?_); refine Kd.R_lit kTr w.heap.size 34 ?hg (N := 22) ?hd (xs := ([] : List Trn)) (inner := []) (ok := fun _ => True) (okp := fun _ => True) ?hr ?hp (fun _ hk => hk) trivial (Below.refl _ w) (Nat.le_refl _) (by simp) ?_; (case hd => rfl); (case hg => rfl); (case hr => first | (go_simp; done) | (go_simp; rfl)); (case hp => exact (Reps.none _ _)); intro v5 w3 ho4 hb4 hg_ hnew_; have H4 := Aside0.mk (And.intro ho4 hb4); clear hg_ hnew_ ho4 hb4) | ((with_reducible refine gate_builtin (b := .append) (xs := #[.tmp 22, .tmp 23]) rfl ?_); at_builtin; refine Kd.R_append_rows kTr (w0 := w) w.heap.size rfl (.tmp 22) (.tmp 23) 22 34 (.agg #[.int .i64 0, .int .u64 0, .int .i64 0, .int .i64 0, .bool false]) 40 rfl Tryd.underlying22 infoTr rfl (by decide) (by omega) v5 [] ts _ _ _ (fun _ => True) (fun _ => False) rfl rfl H4.out.1 (Kd.C_below HA.out.1 H4.out.2) (fun x cs h => by rw [kTr_open h]; exact kTr_mkM _ _ _ _ _ _ _ _) (fun _ h => h.elim) (fun _ _ => trivial) H4.out.2 H4.out.2.size (by have := HM.out.1; simp only [List.length_nil]; omega) ?_; intro v6 w4 ho5 hb5 hg5 hat5; rw [List.nil_append] at ho5; have H5 := Aside0.mk (And.intro ho5 hb5); clear ho5 hb5 hg5 hat5) | ((with_reducible refine gate_builtin (b := .append) (xs := #[.tmp 24, .tmp 25]) rfl ?_); at_builtin; refine Kd.R_append_rows kTr (w0 := w) w.heap.size rfl (.tmp 24) (.tmp 25) 22 34 (.agg #[.int .i64 0, .int .u64 0, .int .i64 0, .int .i64 0, .bool false]) 40 rfl Tryd.underlying22 infoTr rfl (by decide) (by omega) v6 ts us _ _ _ (fun _ => True) (fun _ => False) rfl rfl H5.out.1 (Kd.C_below HA.out.2.2.1 H5.out.2) (fun x cs h => by rw [kTr_open h]; exact kTr_mkM _ _ _ _ _ _ _ _) (fun _ h => h.elim) (fun _ _ => trivial) H5.out.2 H5.out.2.size (by have := HM.out.1; have := HM.out.2; omega) ?_; intro v7 w5 ho6 hb6 hg6 hat6; have H6 := Aside0.mk (And.intro ho6 hb6); clear ho6 hb6 hg6 hat6) | fail)
      obtain ⟨A7, c7, hv7⟩ := Kd.R_slice H6.out.1
      have hR7 := H6.out.1
      rw [hv7] at hR7
      subst hv7
      obtain ⟨both, hbo⟩ : ∃ x, x = ts ++ us := ⟨_, rfl⟩
      rw [← hbo] at hR7
      rw [← hbo]
      obtain ⟨-, hc7, hC7⟩ := Kd.R_reads' hR7
      have hlb : both.length = ts.length + us.length := by rw [hbo, List.length_append]
      have HB := Aside0.mk (And.intro hbo hlb)
      have H7 := Aside0.mk (And.intro hR7 (And.intro hc7 (And.intro hC7 H6.out.2)))
      have HT := Aside0.mk (turns_calls both A7 c7 w5 hC7 hc7)
      clear hR7 hc7 hC7 hbo hlb H4 H5 H6
      go_wp2_with fail
      refine HT.out.mono ?_
      rintro en w6 ⟨⟨b, rfl, hb⟩, hbl⟩
      have HB6 := Aside0.mk (H7.out.2.2.2.trans (hbl.mono H7.out.2.2.2.size))
      have HR6 := Aside0.mk (Kd.R_below H7.out.1 hbl)
      clear hbl HT
      cases b with
      | false =>
        clear hb
        go_wp2_with fail
        refine (awake_calls w6 (HA.out.2.2.2.2.1.below HB6.out)).mono ?_
        rintro en w7 ⟨rfl, hb2⟩
        have HB2 := Aside0.mk hb2
        clear hb2
        go_wp2_with fail
        go_ret
        exact ⟨rfl, HB6.out.trans (HB2.out.mono HB6.out.size)⟩
      | true =>
        have hTP := hb rfl
        have h40 := hTP.len
        have hBP : BackP ts us := backP (by rw [← HB.out.1]; exact turnsP_good hTP (by rw [HB.out.1]; exact HA.out.2.2.2.2.2.1))
        have HBP := Aside0.mk (And.intro hBP (And.intro h40 HB.out.2))
        clear hb hTP hBP h40
        obtain ⟨-, hc8, hC8⟩ := Kd.R_reads' HR6.out
        have HSP := Aside0.mk (spec_calls both A7 c7 w6 hC8 hc8 (by have := HBP.out.2.1; omega))
        clear hc8 hC8
        go_wp2_with fail
        refine HSP.out.mono ?_
        rintro en w7 ⟨v, u, rfl, hRv, hRu, hb7⟩
        have hb07 := HB6.out.trans (hb7.mono HB6.out.size)
        have h40' : ts.length + us.length ≤ 40 := by have := HBP.out.2.1; rw [HBP.out.2.2] at this; exact this
        have HBK := Aside0.mk (back_calls ts us A A2 c c2 high w7 (Kd.C_below HA.out.1 hb07) HA.out.2.1 (Kd.C_below HA.out.2.2.1 hb07) HA.out.2.2.2.1 (HA.out.2.2.2.2.1.below hb07) HBP.out.1.good (by omega) (by omega) HBP.out.1.hu HA.out.2.2.2.2.2.2)
        have H8 := Aside0.mk (And.intro hRv (And.intro hRu (And.intro hb07 h40')))
        clear hRv hRu hb07 hb7 h40' HSP
        go_wp2_with fail
        refine HBK.out.mono ?_
        rintro en w8 ⟨l', v2, rs, hp, rfl, hAn, hRr, hb8⟩
        have hRv := Kd.R_below H8.out.1 hb8
        have hRu := Kd.R_below H8.out.2.1 hb8
        have hb08 := H8.out.2.2.1.trans (hb8.mono H8.out.2.2.1.size)
        obtain ⟨A3, c3, e3⟩ := Kd.R_slice hRv
        obtain ⟨A4, c4, e4⟩ := Kd.R_slice hRu
        obtain ⟨A5, c5, e5⟩ := Kd.R_slice hRr
        subst e3 e4 e5
        obtain ⟨hal, hcount⟩ := HBP.out.1.rel l' hp
        rw [← HB.out.1] at hal hcount
        have hlu : (specR [] both).2.length = ts.length + us.length := by rw [specR_alen, HB.out.2]
        have hall := ansAll_trans hAn hal
        have hCu := CA_fromR hRu
        have hCd := Kd.C_drop (m := ts.length) hCu.2.2 (by omega) hCu.2.1
        have hdl : ((specR [] both).2.drop ts.length).length = us.length := by rw [List.length_drop, hlu]; omega
        have hlr : rs.length = us.length := by rw [hall.len, hdl]
        have hnd := HBP.out.1.nd
        rw [← HB.out.1] at hnd
        have HS := Aside0.mk (sameAnswers_calls rs ((specR [] both).2.drop ts.length) A5 c5 _ (c4 - ts.length) w8 (CA_fromR hRr).2.2 (CA_fromR hRr).2.1 hCd (by have := hCu.2.1; rw [hdl]; omega) (by have := H8.out.2.2.2; omega) hall (fun i hi => by
          have hi' : i < ((specR [] both).2.drop ts.length).length := by rw [← hall.len]; exact hi
          have q := ans_at hall i hi
          obtain ⟨q1, q2⟩ := hnd i hi'
          refine ⟨(q.2.map _).nodup_iff.2 q1, ?_⟩
          rw [q.2.length_eq]
          have := H8.out.2.2.2
          omega))
        rw [hdl] at HS
        rw [hcount, hlu]
        have HB8 := Aside0.mk (And.intro hb08 hCu.2.1)
        have f1 := eq_true (show ts.length ≤ ts.length + us.length by omega)
        have f2 := eq_true (show (ts.length : Int) ≤ ((ts.length + us.length : Nat) : Int) by omega)
        clear hRv hRu hb08 hb8 hAn hRr hp hal hcount hlu hall hCu hCd hdl hlr hnd HBK H8
        go_wp2_with fail
        · have q := HS.out
          rw [if_pos (by assumption), show c4 - ts.length = 0 from by omega] at q
          refine q.mono ?_
          rintro en w9 ⟨rfl, hb9⟩
          have HB9 := Aside0.mk (HB8.out.1.trans (hb9.mono HB8.out.1.size))
          clear hb9 q
          go_wp2_with fail
          refine (awake_calls w9 (HA.out.2.2.2.2.1.below HB9.out)).mono ?_
          rintro en w10 ⟨rfl, hb10⟩
          have HB10 := Aside0.mk (HB9.out.trans (hb10.mono HB9.out.size))
          clear hb10
          go_wp2_with fail
          go_ret
          exact ⟨rfl, HB10.out⟩
        · have q := HS.out
          rw [if_neg (by assumption)] at q
          refine q.mono ?_
          rintro en w9 ⟨rfl, hb9⟩
          have HB9 := Aside0.mk (HB8.out.1.trans (hb9.mono HB8.out.1.size))
          clear hb9 q
          go_wp2_with fail
          refine (awake_calls w9 (HA.out.2.2.2.2.1.below HB9.out)).mono ?_
          rintro en w10 ⟨rfl, hb10⟩
          have HB10 := Aside0.mk (HB9.out.trans (hb10.mono HB9.out.size))
          clear hb10
          go_wp2_with fail
          go_ret
          exact ⟨rfl, HB10.out⟩

end Go.Proofs.YtnkjlfadegjjoaaDoor.WhF
