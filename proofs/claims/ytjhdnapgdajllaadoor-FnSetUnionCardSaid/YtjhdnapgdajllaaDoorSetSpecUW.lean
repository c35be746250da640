/- WALKS: the package spec's union of two sets. -/
import Derived.Test.YtjhdnapgdajllaaDoorProg
import Derived.Below
import Derived.Deep.Draws
import Derived.Deep.AppendLies
import Derived.Maps.AppendAt
import Derived.OwnWalk
import Derived.Laws.BytesArg
import Derived.Laws.MakeOwn
import Derived.Laws.OwnMore
import Derived.Deep.OwnRows
import Derived.Tactics
import Derived.Lib.ConvBytes
import Derived.Laws.Slices
import Derived.WalkKit
import Derived.KernelRfl
import Derived.RowKit3
import Derived.Deep.LoopGhost
import Derived.Deep.QuietTactic
import Derived.BigQuiet
import Derived.WideLaws
import Derived.Deep.DeepCutAuto
import Derived.Deep.CutBlock
import Derived.Deep.RegionHeld3
import Derived.Laws.Rows
import Derived.Lib.AppendStr
import Derived.ArgAppend
import Derived.Laws.IdiomCopy
import Derived.OrdersHeld
import Derived.Laws.BitsLemmas
import Derived.RowKit
import Derived.Test.YtjhdnapgdajllaaDoorWWords
import Derived.Test.YtjhdnapgdajllaaDoorWLast
import Derived.Test.YtjhdnapgdajllaaDoorWTab
import Derived.Test.YtjhdnapgdajllaaDoorWFour
import Derived.Test.YtjhdnapgdajllaaDoorWQPut
import Derived.Test.YtjhdnapgdajllaaDoorWApart
import Derived.Test.YtjhdnapgdajllaaDoorWArr
import Derived.Test.YtjhdnapgdajllaaDoorWZeros
import Derived.Test.YtjhdnapgdajllaaDoorWFoot
import Derived.Test.YtjhdnapgdajllaaDoorWKept
import Derived.Test.YtjhdnapgdajllaaDoorWShare
import Derived.Test.YtjhdnapgdajllaaDoorWN
import Derived.Test.YtjhdnapgdajllaaDoorWFootNe
import Derived.Test.YtjhdnapgdajllaaDoorWAt
import Derived.Test.YtjhdnapgdajllaaDoorWEqStruct
import Derived.Test.YtjhdnapgdajllaaDoorWRepsOne
import Derived.Test.YtjhdnapgdajllaaDoorWInv
import Derived.Test.YtjhdnapgdajllaaDoorWInvWords
import Derived.Test.YtjhdnapgdajllaaDoorWGuard
import Derived.Test.YtjhdnapgdajllaaDoorWNEv
import Derived.Test.YtjhdnapgdajllaaDoorWMore
import Derived.Test.YtjhdnapgdajllaaDoorSetUnionW
namespace Go.Proofs.YtjhdnapgdajllaaDoor.SetSpecUW
open Go.RowKit Go.Proofs.YtjhdnapgdajllaaDoorW.PrintWords Go.Proofs.YtjhdnapgdajllaaDoorW.PrintLast Go.Proofs.YtjhdnapgdajllaaDoorW.PrintMore
attribute [local go_sem] max2_int min2_int max_two min_two max_three min_three max_four min_four   -- for this text's walks alone
set_option linter.unusedVariables false
set_option linter.unusedSimpArgs false



open _root_.Go.Proofs.YtjhdnapgdajllaaDoor.SetW _root_.Go.Proofs.YtjhdnapgdajllaaDoor.SetSpecW _root_.Go.Proofs.YtjhdnapgdajllaaDoor.SetUnionW
set_option maxHeartbeats 16000000 in
set_option maxRecDepth 100000 in
theorem specUnion_walk (A : Option Addr) (c : Nat) (La : List Nat) (A' : Option Addr) (c' : Nat) (Lb : List Nat) (w : World) (hC : Kd.C (Kd.int .u64) w A (nI La).length (nI La)) (hc : La.length ≤ c) (hC' : Kd.C (Kd.int .u64) w A' (nI Lb).length (nI Lb)) (hc' : Lb.length ≤ c') (hl : La.length + Lb.length ≤ 9000) :
    Calls Tryd.prog 26 #[.slice A La.length c, .slice A' Lb.length c'] w fun e w' => ∃ v, e = .returned v ∧ Kd.R (Kd.int .u64) 32 w' w.heap.size (fun _ => True) v (nI (unL La Lb)) ∧ Below w.heap.size w w' := by
  have HH := Aside0.mk (And.intro hC (And.intro hc (And.intro hC' (And.intro hc' hl))))
  have hlb : Lb.length ≤ 9000 := by omega
  rw [nI_len] at hC
  have HCA := Aside0.mk hC
  clear hC hc hC' hc' hl
  go_enter Tryd.func26, Tryd.ntmps26
  have HB := Aside0.mk (Below.refl w.heap.size w)
  go_wp2_with (first | ((with_reducible refine gate_dst (N := 9) rfl ?_); refine Kd.R_lit (Kd.int .u64) (w0 := w) w.heap.size 32 ?hg (N := 9) ?hd (xs := ([] : List Int)) (inner := []) (ok := fun k => w.heap.size ≤ k) (okp := fun _ => False) ?hr ?hp (fun _ hk => hk.elim) (Nat.le_refl _) (Below.refl _ _) (Nat.le_refl _) (by simp) ?_; (case hd => rfl); (case hg => rfl); (case hr => first | (go_simp; done) | (go_simp; rfl)); (case hp => exact Reps.none _ _); intro v9 w1 ho hb hg_ hnew_; have n0_ := Aside0.mk ho; have n1_ := Aside0.mk hb; clear HB ho hb hg_ hnew_; have HO9 := n0_; have HB := n1_; clear n0_ n1_) | ((with_reducible refine gate_builtin (b := .append) (xs := #[.tmp 9, .tmp 10]) rfl ?_); at_builtin; refine Kd.R_append_rows (Kd.int .u64) (w0 := w) w.heap.size rfl (.tmp 9) (.tmp 10) 25 32 (.int .u64 0) 8 rfl Tryd.underlying25 sInfoU rfl (by decide) (by omega) v9 [] (nI La) _ _ _ (fun k => w.heap.size ≤ k) (fun _ => False) rfl rfl HO9.out (Kd.C_below HCA.out HB.out) (fun _ _ h => h) (fun _ h => h.elim) (fun k hk => Nat.le_trans HB.out.size hk) HB.out HB.out.size (by have := HH.out.2.2.2.2; simp only [List.length_nil]; omega) ?_; intro v11 w2 ho hb hg hat; have n0_ := Aside0.mk ho; have n1_ := Aside0.mk hb; clear HB ho hb hg hat; have HO11 := n0_; have HB := n1_; clear n0_ n1_))
  go_loopw [5, 6] (fun v5 v6 wx => ∃ (k : Nat), v6 = .int .i64 (k : Int) ∧ Aside0 (k ≤ Lb.length) ∧ Aside0 (Kd.R (Kd.int .u64) 32 wx w.heap.size (fun k => w.heap.size ≤ k) v5 (nI (unL La (Lb.take k)))) ∧ Aside0 (Below w.heap.size w wx)) (fun _ v6 _ => Road.leftOf Lb.length v6)
  case atStart => exact ⟨0, rfl, ⟨Nat.zero_le _⟩, ⟨HO11.out⟩, HB⟩
  case round =>
    obtain ⟨k, rfl, HK, HR4, HB⟩ := hrel
    rcases Nat.lt_or_ge k Lb.length with hk | hk
    · have k1' := eq_true (show (k : Int) < (Lb.length : Int) by omega)
      have k2' := eq_true hk
      have k3' := eq_true (show 0 ≤ (k : Int) by omega)
      obtain ⟨s, hs⟩ : ∃ s, s = Lb[k] := ⟨_, rfl⟩
      obtain ⟨ad, had, h1⟩ := C_cell (Kd.C_below HH.out.2.2.1 HB.out) k s (by rw [List.getElem?_eq_getElem hk, hs])
      subst had
      have htk : unL La (Lb.take (k + 1)) = insL s (unL La (Lb.take k)) := by
        rw [List.take_succ_eq_append_getElem hk, unL_append, hs]
        rfl
      have hlen : (unL La (Lb.take k)).length ≤ 9000 := by
        have := unL_le (Lb.take k) La
        have := HH.out.2.2.2.2
        rw [List.length_take] at *
        omega
      obtain ⟨L, hL⟩ : ∃ L, L = unL La (Lb.take k) := ⟨_, rfl⟩
      rw [← hL] at HR4 htk hlen
      obtain ⟨A4, c4, e4, hc4, hC4⟩ := Kd.R_reads HR4.out
      rw [nI_len] at e4 hc4
      subst e4
      obtain ⟨q, hq⟩ : ∃ q, q = isL s L := ⟨_, rfl⟩
      obtain ⟨P, hP⟩ : ∃ P, P = posL s L := ⟨_, rfl⟩
      have hPl := posL_le s L
      rw [← hP] at hPl
      have hat := at_walk A4 c4 L s wr hC4 hlen
      rw [← hP, ← hq] at hat
      have HAT := Aside0.mk hat
      have HST := Aside0.mk (And.intro hlb (And.intro hk hPl))
      have HLN := Aside0.mk hlen
      have HPQ := Aside0.mk (And.intro hq hP)
      have HC4 := Aside0.mk (And.intro hC4 hc4)
      have HTK := Aside0.mk htk
      clear hs htk hlen hL hc4 hC4 hq hP hPl hat hk
      go_wp2_with fail
      refine HAT.out.mono ?_
      rintro e w2 ⟨rfl, hd⟩
      have hb2 : Below wr.heap.size wr w2 := by
        rcases hd with rfl | rfl
        · exact Below.refl _ _
        · exact below_drew (Below.refl _ _)
      have HB2 := Aside0.mk (below_step HB.out hb2)
      have HCS := Aside0.mk (cell_below hb2 h1)
      have cs := HCS.out
      have HR42 := Aside0.mk (Kd.R_below HR4.out hb2)
      have hC42 := Kd.C_below HC4.out.1 hb2
      have HCP := C_pos hC42 P c4 HST.out.2.2 HC4.out.2
      have HCT := Aside0.mk HCP.1
      have HCD := Aside0.mk HCP.2
      clear HCP
      have sl1 := run_take25 A4 L.length P c4 HST.out.2.2 HC4.out.2
      clear hd hb2 h1 hC42
      cases q with
      | true =>
        clear sl1
        go_wp2_with fail
        go_roundw
        case rel =>
          refine ⟨k + 1, ?_, ⟨HST.out.2.1⟩, ⟨?_⟩, HB2⟩
          · rw [Road.w64 ((k : Int) + 1) ((k + 1 : Nat) : Int) (by omega) (by omega) (by have := HST.out; omega)]
          · rw [HTK.out, isL_insL, if_pos HPQ.out.1.symm]; exact HR42.out
        case measure =>
          rw [Road.w64 ((k : Int) + 1) ((k + 1 : Nat) : Int) (by omega) (by omega) (by have := HST.out; omega)]
          exact Road.leftOf_lt HST.out.2.1
      | false =>
        have HINS := Aside0.mk (show nI (insL s L) = [] ++ nI (L.take P) ++ [(s : Int)] ++ nI (L.drop P) by rw [isL_insL, if_neg (by rw [← HPQ.out.1]; simp), ← HPQ.out.2]; simp [nI])
        obtain ⟨A5, hA5⟩ : ∃ A5, A5 = (if c4 = P then A4 else A4.map (·.add P)) := ⟨_, rfl⟩
        have sl2 := run_drop25 A4 L.length P c4 HST.out.2.2 HC4.out.2
        rw [← hA5] at sl2 HCD
        clear hA5
        go_wp2_with fail
        refine start_ (n := 16) (S := fun w' => w'.cell? (ad.add k) = some (.int .u64 (s : Int))) (ds := []) #[false, false, false, false, false, false, false, false, false, false, false, false, false, false, false, false] (by kernel_rfl) rfl rfl HCS.out (fun hHeld => ?_)
        refine pure_ (i := 1) (N := some 30) (v := ?_) (a' := ?_) #[false, true, false, false, false, false, false, false, false, false, false, false, false, false, false, false] rfl rfl (by kernel_rfl) (fun _ _ _ h => h) (Or.inl ⟨by rfl, ?_⟩) ?_ ?_
        rotate_left
        · intro w'
          go_simp
          with_reducible rfl
        rotate_left
        · simp only [Act.put, List.setIfInBounds_toArray, List.set_cons_zero, List.set_cons_succ, i64_w, i32_w]
          rfl
        refine pure_ (i := 2) (N := some 31) (v := ?_) (a' := ?_) #[false, true, true, false, false, false, false, false, false, false, false, false, false, false, false, false] rfl rfl (by kernel_rfl) (fun _ _ _ h => h) (Or.inl ⟨by rfl, ?_⟩) ?_ ?_
        rotate_left
        · intro w'
          go_simp
          with_reducible rfl
        rotate_left
        · simp only [Act.put, List.setIfInBounds_toArray, List.set_cons_zero, List.set_cons_succ, i64_w, i32_w]
          rfl
        refine pure_ (i := 3) (N := some 32) (v := ?_) (a' := ?_) #[false, true, true, true, false, false, false, false, false, false, false, false, false, false, false, false] rfl rfl (by kernel_rfl) (fun _ _ _ h => h) (Or.inl ⟨by rfl, ?_⟩) ?_ ?_
        rotate_left
        · intro w'
          go_simp
          with_reducible rfl
        rotate_left
        · simp only [Act.put, List.setIfInBounds_toArray, List.set_cons_zero, List.set_cons_succ, i64_w, i32_w]
          rfl
        refine pure_ (i := 5) (N := some 34) (v := ?_) (a' := ?_) #[false, true, true, true, false, true, false, false, false, false, false, false, false, false, false, false] rfl rfl (by kernel_rfl) (fun _ _ _ h => h) (Or.inl ⟨by rfl, ?_⟩) ?_ ?_
        rotate_left
        · intro w'
          go_simp
          with_reducible rfl
        rotate_left
        · simp only [Act.put, List.setIfInBounds_toArray, List.set_cons_zero, List.set_cons_succ, i64_w, i32_w]
          rfl
        refine pure_ (i := 6) (N := some 35) (v := ?_) (a' := ?_) #[false, true, true, true, false, true, true, false, false, false, false, false, false, false, false, false] rfl rfl (by kernel_rfl) (fun _ _ _ h => h) (Or.inl ⟨by rfl, ?_⟩) ?_ ?_
        rotate_left
        · intro w'
          go_simp
          with_reducible rfl
        rotate_left
        · simp only [Act.put, List.setIfInBounds_toArray, List.set_cons_zero, List.set_cons_succ, i64_w, i32_w]
          rfl
        refine pure_ (i := 7) (N := some 36) (v := ?_) (a' := ?_) #[false, true, true, true, false, true, true, true, false, false, false, false, false, false, false, false] rfl rfl (by kernel_rfl) (fun _ _ _ h => h) (Or.inl ⟨by rfl, ?_⟩) ?_ ?_
        rotate_left
        · intro w'
          go_simp
          with_reducible rfl
        rotate_left
        · simp only [Act.put, List.setIfInBounds_toArray, List.set_cons_zero, List.set_cons_succ, i64_w, i32_w]
          rfl
        refine take_ (i := 8) (N := some 37) (v := ?_) (a' := ?_) #[false, true, true, true, false, true, true, true, true, false, false, false, false, false, false, false] rfl rfl (by kernel_rfl) (fun _ _ _ h => h) (Or.inl ⟨by rfl, ?_⟩) hHeld ?_ ?_
        rotate_left
        · intro w' hS'
          go_simp
          with_reducible rfl
        rotate_left
        · simp only [Act.put, List.setIfInBounds_toArray, List.set_cons_zero, List.set_cons_succ, i64_w, i32_w]
          rfl
        refine pure_ (i := 11) (N := some 40) (v := ?_) (a' := ?_) #[false, true, true, true, false, true, true, true, true, false, false, true, false, false, false, false] rfl rfl (by kernel_rfl) (fun _ _ _ h => h) (Or.inl ⟨by rfl, ?_⟩) ?_ ?_
        rotate_left
        · intro w'
          go_simp
          with_reducible rfl
        rotate_left
        · simp only [Act.put, List.setIfInBounds_toArray, List.set_cons_zero, List.set_cons_succ, i64_w, i32_w]
          rfl
        refine pure_ (i := 12) (N := some 41) (v := ?_) (a' := ?_) #[false, true, true, true, false, true, true, true, true, false, false, true, true, false, false, false] rfl rfl (by kernel_rfl) (fun _ _ _ h => h) (Or.inl ⟨by rfl, ?_⟩) ?_ ?_
        rotate_left
        · intro w'
          go_simp
          with_reducible rfl
        rotate_left
        · simp only [Act.put, List.setIfInBounds_toArray, List.set_cons_zero, List.set_cons_succ, i64_w, i32_w]
          rfl
        refine pure_ (i := 13) (N := some 42) (v := ?_) (a' := ?_) #[false, true, true, true, false, true, true, true, true, false, false, true, true, true, false, false] rfl rfl (by kernel_rfl) (fun _ _ _ h => h) (Or.inl ⟨by rfl, ?_⟩) ?_ ?_
        rotate_left
        · intro w'
          go_simp
          with_reducible rfl
        rotate_left
        · simp only [Act.put, List.setIfInBounds_toArray, List.set_cons_zero, List.set_cons_succ, i64_w, i32_w]
          rfl
        obtain ⟨yD, hyD⟩ : ∃ yD, yD = w2.drew := ⟨_, rfl⟩
        have hz0 : w2.heap.size ≤ yD.heap.size := by rw [hyD]; exact Nat.le_refl _
        have hT_yD : Below w2.heap.size w2 yD := by rw [hyD]; exact below_drew (Below.refl _ w2)
        have hS_yD := cell_below hT_yD HCS.out
        rw [← hyD] at hHeld ⊢
        clear hyD
        refine two_ (i := 0) (j := 9) (Ni := some 29) (Nj := some 38) #[true, true, true, true, false, true, true, true, true, false, false, true, true, true, false, false] #[false, true, true, true, false, true, true, true, true, true, false, true, true, true, false, false] rfl rfl rfl rfl (by kernel_rfl) (by decide) (by decide) (fun K hK => ?_) (fun K hK => ?_)
        · refine Kd.R_lit_step (Kd.int .u64) (w0 := yD) yD.heap.size 32 ?hg (N := 29) ?hd (xs := ([] : List Int)) (inner := []) (ok := fun _ => True) (okp := fun _ => True) ?hr ?hp (fun _ hk => hk) trivial (Below.refl _ _) (Nat.le_refl _) (by simp) ?_; (case hd => rfl); (case hg => rfl); (case hr => first | (go_simp; done) | (go_simp; rfl)); (case hp => exact (Reps.none _ _))
          intro v29 y1 hR_29 hb_y1 _ _
          have hL_29 := Kd.R_lt hR_29
          have hz_y1 := hb_y1.size
          have hT_y1 : Below w2.heap.size w2 y1 := hT_yD.trans (hb_y1.mono (by have z0 := hz0; have := hz_y1; omega))
          have hS_y1 := cell_below hT_y1 HCS.out
          refine hK.out _ _ hS_y1 (fun hHeld => ?_)
          clear hK K
          refine norm_ (a' := ?_) ?_ ?_
          rotate_left
          · show Act.put _ (some 29) _ = _
            simp only [Act.put, List.setIfInBounds_toArray, List.set_cons_zero, List.set_cons_succ, i64_w, i32_w]
            rfl
          refine two_ (i := 4) (j := 9) (Ni := some 33) (Nj := some 38) #[true, true, true, true, true, true, true, true, true, false, false, true, true, true, false, false] #[true, true, true, true, false, true, true, true, true, true, false, true, true, true, false, false] rfl rfl rfl rfl (by kernel_rfl) (by decide) (by decide) (fun K hK => ?_) (fun K hK => ?_)
          · have hC_33 := Kd.C_below HCT.out hT_y1
            refine Kd.R_append_rows_step (Kd.int .u64) (w0 := y1) yD.heap.size (by rfl) (.tmp 29) (.tmp 32) 25 32 (.int .u64 0) 8 rfl Tryd.underlying25 sInfoU rfl (by decide) (by omega) v29 ([]) (nI (L.take P)) _ _ _ (fun _ => True) (fun _ => False) rfl rfl hR_29 hC_33 (fun _ _ h => h) (fun _ h => h.elim) (fun _ _ => trivial) (Below.refl _ _) (by have z0 := hz0; have := hz_y1; omega) (by simp only [List.length_append, List.length_nil, List.length_cons, nI_len, List.length_take, List.length_drop]; have := HLN.out; have := HST.out; omega) ?_
            intro v33 y2 hR_33 hb_y2 hg_y2 _
            have hL_33 := Kd.R_lt hR_33
            clear hR_29
            have hz_y2 := hb_y2.size
            have hT_y2 : Below w2.heap.size w2 y2 := hT_y1.trans (hb_y2.mono (by have z0 := hz0; have := hz_y1; have := hz_y2; omega))
            have hS_y2 := cell_below hT_y2 HCS.out
            refine hK.out _ _ hS_y2 (fun hHeld => ?_)
            clear hK K
            refine norm_ (a' := ?_) ?_ ?_
            rotate_left
            · show Act.put _ (some 33) _ = _
              simp only [Act.put, List.setIfInBounds_toArray, List.set_cons_zero, List.set_cons_succ, i64_w, i32_w]
              rfl
            refine one_ (i := 9) (N := some 38) #[true, true, true, true, true, true, true, true, true, true, false, true, true, true, false, false] rfl rfl (by kernel_rfl) (by decide) (fun K hK => ?_)
            refine Kd.R_lit_step (Kd.int .u64) (w0 := y2) y2.heap.size 32 ?hg (N := 38) ?hd (xs := [(s : Int)]) (inner := [.int .u64 (s : Int)]) (ok := fun _ => True) (okp := fun _ => True) ?hr ?hp (fun _ hk => hk) trivial (Below.refl _ _) (Nat.le_refl _) (by simp) ?_; (case hd => rfl); (case hg => rfl); (case hr => first | (go_simp; done) | (go_simp; rfl)); (case hp => exact Kd.reps_scalar (enc := Value.int .u64) [(s : Int)])
            intro v38 y3 hR_38 hb_y3 _ _
            replace hR_33 := Kd.R_below hR_33 hb_y3
            have hL_38 := Kd.R_lt hR_38
            have hz_y3 := hb_y3.size
            have hT_y3 : Below w2.heap.size w2 y3 := hT_y2.trans (hb_y3.mono (by have z0 := hz0; have := hz_y1; have := hz_y2; have := hz_y3; omega))
            have hS_y3 := cell_below hT_y3 HCS.out
            refine hK.out _ _ hS_y3 (fun hHeld => ?_)
            clear hK K
            refine norm_ (a' := ?_) ?_ ?_
            rotate_left
            · show Act.put _ (some 38) _ = _
              simp only [Act.put, List.setIfInBounds_toArray, List.set_cons_zero, List.set_cons_succ, i64_w, i32_w]
              rfl
            refine one_ (i := 10) (N := some 39) #[true, true, true, true, true, true, true, true, true, true, true, true, true, true, false, false] rfl rfl (by kernel_rfl) (by decide) (fun K hK => ?_)
            obtain ⟨A38, c38, e38, hc38, hC38⟩ := Kd.R_reads hR_38
            subst e38
            refine Kd.R_append_rows_step (Kd.int .u64) (w0 := y3) yD.heap.size (by rfl) (.tmp 33) (.tmp 38) 25 32 (.int .u64 0) 8 rfl Tryd.underlying25 sInfoU rfl (by decide) (by omega) v33 ([] ++ nI (L.take P)) ([(s : Int)]) _ _ _ (fun _ => True) (fun _ => False) rfl rfl hR_33 hC38 (fun _ _ h => h) (fun _ h => h.elim) (fun _ _ => trivial) (Below.refl _ _) (by have z0 := hz0; have := hz_y1; have := hz_y2; have := hz_y3; omega) (by simp only [List.length_append, List.length_nil, List.length_cons, nI_len, List.length_take, List.length_drop]; have := HLN.out; have := HST.out; omega) ?_
            intro v39 y4 hR_39 hb_y4 hg_y4 _
            clear hR_38 hC38 hc38
            have hL_39 := Kd.R_lt hR_39
            clear hR_33
            have hz_y4 := hb_y4.size
            have hT_y4 : Below w2.heap.size w2 y4 := hT_y3.trans (hb_y4.mono (by have z0 := hz0; have := hz_y1; have := hz_y2; have := hz_y3; have := hz_y4; omega))
            have hS_y4 := cell_below hT_y4 HCS.out
            refine hK.out _ _ hS_y4 (fun hHeld => ?_)
            clear hK K
            refine norm_ (a' := ?_) ?_ ?_
            rotate_left
            · show Act.put _ (some 39) _ = _
              simp only [Act.put, List.setIfInBounds_toArray, List.set_cons_zero, List.set_cons_succ, i64_w, i32_w]
              rfl
            refine one_ (i := 14) (N := some 43) #[true, true, true, true, true, true, true, true, true, true, true, true, true, true, true, false] rfl rfl (by kernel_rfl) (by decide) (fun K hK => ?_)
            have hC_43 := Kd.C_below HCD.out hT_y4
            refine Kd.R_append_rows_step (Kd.int .u64) (w0 := y4) yD.heap.size (by rfl) (.tmp 39) (.tmp 42) 25 32 (.int .u64 0) 8 rfl Tryd.underlying25 sInfoU rfl (by decide) (by omega) v39 ([] ++ nI (L.take P) ++ [(s : Int)]) (nI (L.drop P)) _ _ _ (fun _ => True) (fun _ => False) rfl rfl hR_39 hC_43 (fun _ _ h => h) (fun _ h => h.elim) (fun _ _ => trivial) (Below.refl _ _) (by have z0 := hz0; have := hz_y1; have := hz_y2; have := hz_y3; have := hz_y4; omega) (by simp only [List.length_append, List.length_nil, List.length_cons, nI_len, List.length_take, List.length_drop]; have := HLN.out; have := HST.out; omega) ?_
            intro v43 y5 hR_43 hb_y5 hg_y5 _
            have hL_43 := Kd.R_lt hR_43
            clear hR_39
            have hz_y5 := hb_y5.size
            have hT_y5 : Below w2.heap.size w2 y5 := hT_y4.trans (hb_y5.mono (by have z0 := hz0; have := hz_y1; have := hz_y2; have := hz_y3; have := hz_y4; have := hz_y5; omega))
            have hS_y5 := cell_below hT_y5 HCS.out
            refine hK.out _ _ hS_y5 (fun hHeld => ?_)
            clear hK K
            refine norm_ (a' := ?_) ?_ ?_
            rotate_left
            · show Act.put _ (some 43) _ = _
              simp only [Act.put, List.setIfInBounds_toArray, List.set_cons_zero, List.set_cons_succ, i64_w, i32_w]
              rfl
            refine pure_ (i := 15) (N := some 5) (v := ?_) (a' := ?_) #[true, true, true, true, true, true, true, true, true, true, true, true, true, true, true, true] rfl rfl (by kernel_rfl) (fun _ _ _ h => h) (Or.inl ⟨by rfl, ?_⟩) ?_ ?_
            rotate_left
            · intro w'
              go_simp
              with_reducible rfl
            rotate_left
            · simp only [Act.put, List.setIfInBounds_toArray, List.set_cons_zero, List.set_cons_succ, i64_w, i32_w]
              rfl
            refine done_ (by kernel_rfl) ?_
            have HX4 : Aside0 (Kd.R (Kd.int .u64) 32 y5 w.heap.size (fun k => w.heap.size ≤ k) v43 (nI (insL s L))) := ⟨by rw [HINS.out]; exact Kd.R_mono (Kd.R_bound (Kd.R_lower hR_43 (by have := HB2.out.size; have z0 := hz0; have := hz_y1; have := hz_y2; have := hz_y3; have := hz_y4; have := hz_y5; omega))) (fun k hk => hk.2.1)⟩
            have HTX := Aside0.mk hT_y5
            clear hR_43 hL_43 hHeld sl1 sl2
            go_wp2_with fail
            go_roundw
            case rel => exact ⟨k + 1, by rw [Road.w64 ((k : Int) + 1) ((k + 1 : Nat) : Int) (by omega) (by omega) (by have := HST.out; omega)], ⟨HST.out.2.1⟩, ⟨by rw [HTK.out]; exact HX4.out⟩, ⟨HB2.out.trans (Below.mono HTX.out HB2.out.size)⟩⟩
            case measure =>
              rw [Road.w64 ((k : Int) + 1) ((k + 1 : Nat) : Int) (by omega) (by omega) (by have := HST.out; omega)]
              exact Road.leftOf_lt HST.out.2.1
          · refine Kd.R_lit_step (Kd.int .u64) (w0 := y1) y1.heap.size 32 ?hg (N := 38) ?hd (xs := [(s : Int)]) (inner := [.int .u64 (s : Int)]) (ok := fun _ => True) (okp := fun _ => True) ?hr ?hp (fun _ hk => hk) trivial (Below.refl _ _) (Nat.le_refl _) (by simp) ?_; (case hd => rfl); (case hg => rfl); (case hr => first | (go_simp; done) | (go_simp; rfl)); (case hp => exact Kd.reps_scalar (enc := Value.int .u64) [(s : Int)])
            intro v38 y2 hR_38 hb_y2 _ _
            replace hR_29 := Kd.R_below hR_29 hb_y2
            have hL_38 := Kd.R_lt hR_38
            have hz_y2 := hb_y2.size
            have hT_y2 : Below w2.heap.size w2 y2 := hT_y1.trans (hb_y2.mono (by have z0 := hz0; have := hz_y1; have := hz_y2; omega))
            have hS_y2 := cell_below hT_y2 HCS.out
            refine hK.out _ _ hS_y2 (fun hHeld => ?_)
            clear hK K
            refine norm_ (a' := ?_) ?_ ?_
            rotate_left
            · show Act.put _ (some 38) _ = _
              simp only [Act.put, List.setIfInBounds_toArray, List.set_cons_zero, List.set_cons_succ, i64_w, i32_w]
              rfl
            refine one_ (i := 4) (N := some 33) #[true, true, true, true, true, true, true, true, true, true, false, true, true, true, false, false] rfl rfl (by kernel_rfl) (by decide) (fun K hK => ?_)
            have hC_33 := Kd.C_below HCT.out hT_y2
            refine Kd.R_append_rows_step (Kd.int .u64) (w0 := y2) yD.heap.size (by rfl) (.tmp 29) (.tmp 32) 25 32 (.int .u64 0) 8 rfl Tryd.underlying25 sInfoU rfl (by decide) (by omega) v29 ([]) (nI (L.take P)) _ _ _ (fun _ => True) (fun _ => False) rfl rfl hR_29 hC_33 (fun _ _ h => h) (fun _ h => h.elim) (fun _ _ => trivial) (Below.refl _ _) (by have z0 := hz0; have := hz_y1; have := hz_y2; omega) (by simp only [List.length_append, List.length_nil, List.length_cons, nI_len, List.length_take, List.length_drop]; have := HLN.out; have := HST.out; omega) ?_
            intro v33 y3 hR_33 hb_y3 hg_y3 _
            replace hR_38 := Kd.R_grown2 hR_38 rfl hg_y3 (fun k hk e_ => absurd (hL_29 k hk) (by have := Kd.R_base hR_38 k e_.symm; have z0 := hz0; have := hz_y1; have := hz_y2; omega))
            have hL_33 := Kd.R_lt hR_33
            clear hR_29
            have hz_y3 := hb_y3.size
            have hT_y3 : Below w2.heap.size w2 y3 := hT_y2.trans (hb_y3.mono (by have z0 := hz0; have := hz_y1; have := hz_y2; have := hz_y3; omega))
            have hS_y3 := cell_below hT_y3 HCS.out
            refine hK.out _ _ hS_y3 (fun hHeld => ?_)
            clear hK K
            refine norm_ (a' := ?_) ?_ ?_
            rotate_left
            · show Act.put _ (some 33) _ = _
              simp only [Act.put, List.setIfInBounds_toArray, List.set_cons_zero, List.set_cons_succ, i64_w, i32_w]
              rfl
            refine one_ (i := 10) (N := some 39) #[true, true, true, true, true, true, true, true, true, true, true, true, true, true, false, false] rfl rfl (by kernel_rfl) (by decide) (fun K hK => ?_)
            obtain ⟨A38, c38, e38, hc38, hC38⟩ := Kd.R_reads hR_38
            subst e38
            refine Kd.R_append_rows_step (Kd.int .u64) (w0 := y3) yD.heap.size (by rfl) (.tmp 33) (.tmp 38) 25 32 (.int .u64 0) 8 rfl Tryd.underlying25 sInfoU rfl (by decide) (by omega) v33 ([] ++ nI (L.take P)) ([(s : Int)]) _ _ _ (fun _ => True) (fun _ => False) rfl rfl hR_33 hC38 (fun _ _ h => h) (fun _ h => h.elim) (fun _ _ => trivial) (Below.refl _ _) (by have z0 := hz0; have := hz_y1; have := hz_y2; have := hz_y3; omega) (by simp only [List.length_append, List.length_nil, List.length_cons, nI_len, List.length_take, List.length_drop]; have := HLN.out; have := HST.out; omega) ?_
            intro v39 y4 hR_39 hb_y4 hg_y4 _
            clear hR_38 hC38 hc38
            have hL_39 := Kd.R_lt hR_39
            clear hR_33
            have hz_y4 := hb_y4.size
            have hT_y4 : Below w2.heap.size w2 y4 := hT_y3.trans (hb_y4.mono (by have z0 := hz0; have := hz_y1; have := hz_y2; have := hz_y3; have := hz_y4; omega))
            have hS_y4 := cell_below hT_y4 HCS.out
            refine hK.out _ _ hS_y4 (fun hHeld => ?_)
            clear hK K
            refine norm_ (a' := ?_) ?_ ?_
            rotate_left
            · show Act.put _ (some 39) _ = _
              simp only [Act.put, List.setIfInBounds_toArray, List.set_cons_zero, List.set_cons_succ, i64_w, i32_w]
              rfl
            refine one_ (i := 14) (N := some 43) #[true, true, true, true, true, true, true, true, true, true, true, true, true, true, true, false] rfl rfl (by kernel_rfl) (by decide) (fun K hK => ?_)
            have hC_43 := Kd.C_below HCD.out hT_y4
            refine Kd.R_append_rows_step (Kd.int .u64) (w0 := y4) yD.heap.size (by rfl) (.tmp 39) (.tmp 42) 25 32 (.int .u64 0) 8 rfl Tryd.underlying25 sInfoU rfl (by decide) (by omega) v39 ([] ++ nI (L.take P) ++ [(s : Int)]) (nI (L.drop P)) _ _ _ (fun _ => True) (fun _ => False) rfl rfl hR_39 hC_43 (fun _ _ h => h) (fun _ h => h.elim) (fun _ _ => trivial) (Below.refl _ _) (by have z0 := hz0; have := hz_y1; have := hz_y2; have := hz_y3; have := hz_y4; omega) (by simp only [List.length_append, List.length_nil, List.length_cons, nI_len, List.length_take, List.length_drop]; have := HLN.out; have := HST.out; omega) ?_
            intro v43 y5 hR_43 hb_y5 hg_y5 _
            have hL_43 := Kd.R_lt hR_43
            clear hR_39
            have hz_y5 := hb_y5.size
            have hT_y5 : Below w2.heap.size w2 y5 := hT_y4.trans (hb_y5.mono (by have z0 := hz0; have := hz_y1; have := hz_y2; have := hz_y3; have := hz_y4; have := hz_y5; omega))
            have hS_y5 := cell_below hT_y5 HCS.out
            refine hK.out _ _ hS_y5 (fun hHeld => ?_)
            clear hK K
            refine norm_ (a' := ?_) ?_ ?_
            rotate_left
            · show Act.put _ (some 43) _ = _
              simp only [Act.put, List.setIfInBounds_toArray, List.set_cons_zero, List.set_cons_succ, i64_w, i32_w]
              rfl
            refine pure_ (i := 15) (N := some 5) (v := ?_) (a' := ?_) #[true, true, true, true, true, true, true, true, true, true, true, true, true, true, true, true] rfl rfl (by kernel_rfl) (fun _ _ _ h => h) (Or.inl ⟨by rfl, ?_⟩) ?_ ?_
            rotate_left
            · intro w'
              go_simp
              with_reducible rfl
            rotate_left
            · simp only [Act.put, List.setIfInBounds_toArray, List.set_cons_zero, List.set_cons_succ, i64_w, i32_w]
              rfl
            refine done_ (by kernel_rfl) ?_
            have HX4 : Aside0 (Kd.R (Kd.int .u64) 32 y5 w.heap.size (fun k => w.heap.size ≤ k) v43 (nI (insL s L))) := ⟨by rw [HINS.out]; exact Kd.R_mono (Kd.R_bound (Kd.R_lower hR_43 (by have := HB2.out.size; have z0 := hz0; have := hz_y1; have := hz_y2; have := hz_y3; have := hz_y4; have := hz_y5; omega))) (fun k hk => hk.2.1)⟩
            have HTX := Aside0.mk hT_y5
            clear hR_43 hL_43 hHeld sl1 sl2
            go_wp2_with fail
            go_roundw
            case rel => exact ⟨k + 1, by rw [Road.w64 ((k : Int) + 1) ((k + 1 : Nat) : Int) (by omega) (by omega) (by have := HST.out; omega)], ⟨HST.out.2.1⟩, ⟨by rw [HTK.out]; exact HX4.out⟩, ⟨HB2.out.trans (Below.mono HTX.out HB2.out.size)⟩⟩
            case measure =>
              rw [Road.w64 ((k : Int) + 1) ((k + 1 : Nat) : Int) (by omega) (by omega) (by have := HST.out; omega)]
              exact Road.leftOf_lt HST.out.2.1
        · refine Kd.R_lit_step (Kd.int .u64) (w0 := yD) yD.heap.size 32 ?hg (N := 38) ?hd (xs := [(s : Int)]) (inner := [.int .u64 (s : Int)]) (ok := fun _ => True) (okp := fun _ => True) ?hr ?hp (fun _ hk => hk) trivial (Below.refl _ _) (Nat.le_refl _) (by simp) ?_; (case hd => rfl); (case hg => rfl); (case hr => first | (go_simp; done) | (go_simp; rfl)); (case hp => exact Kd.reps_scalar (enc := Value.int .u64) [(s : Int)])
          intro v38 y1 hR_38 hb_y1 _ _
          have hL_38 := Kd.R_lt hR_38
          have hz_y1 := hb_y1.size
          have hT_y1 : Below w2.heap.size w2 y1 := hT_yD.trans (hb_y1.mono (by have z0 := hz0; have := hz_y1; omega))
          have hS_y1 := cell_below hT_y1 HCS.out
          refine hK.out _ _ hS_y1 (fun hHeld => ?_)
          clear hK K
          refine norm_ (a' := ?_) ?_ ?_
          rotate_left
          · show Act.put _ (some 38) _ = _
            simp only [Act.put, List.setIfInBounds_toArray, List.set_cons_zero, List.set_cons_succ, i64_w, i32_w]
            rfl
          refine one_ (i := 0) (N := some 29) #[true, true, true, true, false, true, true, true, true, true, false, true, true, true, false, false] rfl rfl (by kernel_rfl) (by decide) (fun K hK => ?_)
          refine Kd.R_lit_step (Kd.int .u64) (w0 := y1) y1.heap.size 32 ?hg (N := 29) ?hd (xs := ([] : List Int)) (inner := []) (ok := fun _ => True) (okp := fun _ => True) ?hr ?hp (fun _ hk => hk) trivial (Below.refl _ _) (Nat.le_refl _) (by simp) ?_; (case hd => rfl); (case hg => rfl); (case hr => first | (go_simp; done) | (go_simp; rfl)); (case hp => exact (Reps.none _ _))
          intro v29 y2 hR_29 hb_y2 _ _
          replace hR_38 := Kd.R_below hR_38 hb_y2
          have hL_29 := Kd.R_lt hR_29
          have hz_y2 := hb_y2.size
          have hT_y2 : Below w2.heap.size w2 y2 := hT_y1.trans (hb_y2.mono (by have z0 := hz0; have := hz_y1; have := hz_y2; omega))
          have hS_y2 := cell_below hT_y2 HCS.out
          refine hK.out _ _ hS_y2 (fun hHeld => ?_)
          clear hK K
          refine norm_ (a' := ?_) ?_ ?_
          rotate_left
          · show Act.put _ (some 29) _ = _
            simp only [Act.put, List.setIfInBounds_toArray, List.set_cons_zero, List.set_cons_succ, i64_w, i32_w]
            rfl
          refine one_ (i := 4) (N := some 33) #[true, true, true, true, true, true, true, true, true, true, false, true, true, true, false, false] rfl rfl (by kernel_rfl) (by decide) (fun K hK => ?_)
          have hC_33 := Kd.C_below HCT.out hT_y2
          refine Kd.R_append_rows_step (Kd.int .u64) (w0 := y2) y1.heap.size (by rfl) (.tmp 29) (.tmp 32) 25 32 (.int .u64 0) 8 rfl Tryd.underlying25 sInfoU rfl (by decide) (by omega) v29 ([]) (nI (L.take P)) _ _ _ (fun _ => True) (fun _ => False) rfl rfl hR_29 hC_33 (fun _ _ h => h) (fun _ h => h.elim) (fun _ _ => trivial) (Below.refl _ _) (by have z0 := hz0; have := hz_y1; have := hz_y2; omega) (by simp only [List.length_append, List.length_nil, List.length_cons, nI_len, List.length_take, List.length_drop]; have := HLN.out; have := HST.out; omega) ?_
          intro v33 y3 hR_33 hb_y3 hg_y3 _
          replace hR_38 := Kd.R_grown2 hR_38 rfl hg_y3 (fun k hk e_ => absurd (hL_38 k e_.symm) (by have := Kd.R_base hR_29 k hk; have z0 := hz0; have := hz_y1; have := hz_y2; omega))
          have hL_33 := Kd.R_lt hR_33
          clear hR_29
          have hz_y3 := hb_y3.size
          have hT_y3 : Below w2.heap.size w2 y3 := hT_y2.trans (hb_y3.mono (by have z0 := hz0; have := hz_y1; have := hz_y2; have := hz_y3; omega))
          have hS_y3 := cell_below hT_y3 HCS.out
          refine hK.out _ _ hS_y3 (fun hHeld => ?_)
          clear hK K
          refine norm_ (a' := ?_) ?_ ?_
          rotate_left
          · show Act.put _ (some 33) _ = _
            simp only [Act.put, List.setIfInBounds_toArray, List.set_cons_zero, List.set_cons_succ, i64_w, i32_w]
            rfl
          refine one_ (i := 10) (N := some 39) #[true, true, true, true, true, true, true, true, true, true, true, true, true, true, false, false] rfl rfl (by kernel_rfl) (by decide) (fun K hK => ?_)
          obtain ⟨A38, c38, e38, hc38, hC38⟩ := Kd.R_reads hR_38
          subst e38
          refine Kd.R_append_rows_step (Kd.int .u64) (w0 := y3) y1.heap.size (by rfl) (.tmp 33) (.tmp 38) 25 32 (.int .u64 0) 8 rfl Tryd.underlying25 sInfoU rfl (by decide) (by omega) v33 ([] ++ nI (L.take P)) ([(s : Int)]) _ _ _ (fun _ => True) (fun _ => False) rfl rfl hR_33 hC38 (fun _ _ h => h) (fun _ h => h.elim) (fun _ _ => trivial) (Below.refl _ _) (by have z0 := hz0; have := hz_y1; have := hz_y2; have := hz_y3; omega) (by simp only [List.length_append, List.length_nil, List.length_cons, nI_len, List.length_take, List.length_drop]; have := HLN.out; have := HST.out; omega) ?_
          intro v39 y4 hR_39 hb_y4 hg_y4 _
          clear hR_38 hC38 hc38
          have hL_39 := Kd.R_lt hR_39
          clear hR_33
          have hz_y4 := hb_y4.size
          have hT_y4 : Below w2.heap.size w2 y4 := hT_y3.trans (hb_y4.mono (by have z0 := hz0; have := hz_y1; have := hz_y2; have := hz_y3; have := hz_y4; omega))
          have hS_y4 := cell_below hT_y4 HCS.out
          refine hK.out _ _ hS_y4 (fun hHeld => ?_)
          clear hK K
          refine norm_ (a' := ?_) ?_ ?_
          rotate_left
          · show Act.put _ (some 39) _ = _
            simp only [Act.put, List.setIfInBounds_toArray, List.set_cons_zero, List.set_cons_succ, i64_w, i32_w]
            rfl
          refine one_ (i := 14) (N := some 43) #[true, true, true, true, true, true, true, true, true, true, true, true, true, true, true, false] rfl rfl (by kernel_rfl) (by decide) (fun K hK => ?_)
          have hC_43 := Kd.C_below HCD.out hT_y4
          refine Kd.R_append_rows_step (Kd.int .u64) (w0 := y4) y1.heap.size (by rfl) (.tmp 39) (.tmp 42) 25 32 (.int .u64 0) 8 rfl Tryd.underlying25 sInfoU rfl (by decide) (by omega) v39 ([] ++ nI (L.take P) ++ [(s : Int)]) (nI (L.drop P)) _ _ _ (fun _ => True) (fun _ => False) rfl rfl hR_39 hC_43 (fun _ _ h => h) (fun _ h => h.elim) (fun _ _ => trivial) (Below.refl _ _) (by have z0 := hz0; have := hz_y1; have := hz_y2; have := hz_y3; have := hz_y4; omega) (by simp only [List.length_append, List.length_nil, List.length_cons, nI_len, List.length_take, List.length_drop]; have := HLN.out; have := HST.out; omega) ?_
          intro v43 y5 hR_43 hb_y5 hg_y5 _
          have hL_43 := Kd.R_lt hR_43
          clear hR_39
          have hz_y5 := hb_y5.size
          have hT_y5 : Below w2.heap.size w2 y5 := hT_y4.trans (hb_y5.mono (by have z0 := hz0; have := hz_y1; have := hz_y2; have := hz_y3; have := hz_y4; have := hz_y5; omega))
          have hS_y5 := cell_below hT_y5 HCS.out
          refine hK.out _ _ hS_y5 (fun hHeld => ?_)
          clear hK K
          refine norm_ (a' := ?_) ?_ ?_
          rotate_left
          · show Act.put _ (some 43) _ = _
            simp only [Act.put, List.setIfInBounds_toArray, List.set_cons_zero, List.set_cons_succ, i64_w, i32_w]
            rfl
          refine pure_ (i := 15) (N := some 5) (v := ?_) (a' := ?_) #[true, true, true, true, true, true, true, true, true, true, true, true, true, true, true, true] rfl rfl (by kernel_rfl) (fun _ _ _ h => h) (Or.inl ⟨by rfl, ?_⟩) ?_ ?_
          rotate_left
          · intro w'
            go_simp
            with_reducible rfl
          rotate_left
          · simp only [Act.put, List.setIfInBounds_toArray, List.set_cons_zero, List.set_cons_succ, i64_w, i32_w]
            rfl
          refine done_ (by kernel_rfl) ?_
          have HX4 : Aside0 (Kd.R (Kd.int .u64) 32 y5 w.heap.size (fun k => w.heap.size ≤ k) v43 (nI (insL s L))) := ⟨by rw [HINS.out]; exact Kd.R_mono (Kd.R_bound (Kd.R_lower hR_43 (by have := HB2.out.size; have z0 := hz0; have := hz_y1; have := hz_y2; have := hz_y3; have := hz_y4; have := hz_y5; omega))) (fun k hk => hk.2.1)⟩
          have HTX := Aside0.mk hT_y5
          clear hR_43 hL_43 hHeld sl1 sl2
          go_wp2_with fail
          go_roundw
          case rel => exact ⟨k + 1, by rw [Road.w64 ((k : Int) + 1) ((k + 1 : Nat) : Int) (by omega) (by omega) (by have := HST.out; omega)], ⟨HST.out.2.1⟩, ⟨by rw [HTK.out]; exact HX4.out⟩, ⟨HB2.out.trans (Below.mono HTX.out HB2.out.size)⟩⟩
          case measure =>
            rw [Road.w64 ((k : Int) + 1) ((k + 1 : Nat) : Int) (by omega) (by omega) (by have := HST.out; omega)]
            exact Road.leftOf_lt HST.out.2.1
    · obtain rfl : k = Lb.length := by have := HK.out; omega
      have HF := Aside0.mk (show Kd.R (Kd.int .u64) 32 wr w.heap.size (fun k => w.heap.size ≤ k) _ (nI (unL La Lb)) by have := HR4.out; rw [List.take_length] at this; exact this)
      clear hk
      go_wp2_with fail
      go_ret
      exact ⟨_, rfl, Kd.R_mono HF.out (fun _ _ => trivial), HB.out⟩

end Go.Proofs.YtjhdnapgdajllaaDoor.SetSpecUW
