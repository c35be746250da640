/- WALKS: who is found in a list of interest. -/
import Derived.Test.YtcnbnljlopopkaaDoorProg
import Derived.Below
import Derived.Deep.Draws
import Derived.Deep.AppendLies
import Derived.Maps.AppendAt
import Derived.OwnWalk
import Derived.Laws.BytesArg
import Derived.Laws.MakeOwn
import Derived.Laws.OwnMore
import Derived.Deep.OwnRows
import Derived.Tactics
import Derived.Lib.ConvBytes
import Derived.Laws.Slices
import Derived.WalkKit
import Derived.KernelRfl
import Derived.RowKit3
import Derived.Deep.LoopGhost
import Derived.Deep.QuietTactic
import Derived.BigQuiet
import Derived.WideLaws
import Derived.Deep.DeepCutAuto
import Derived.Deep.CutBlock
import Derived.Deep.RegionHeld3
import Derived.Laws.Rows
import Derived.Lib.AppendStr
import Derived.ArgAppend
import Derived.Laws.IdiomCopy
import Derived.OrdersHeld
import Derived.Laws.BitsLemmas
import Derived.RowKit
import Derived.Test.YtcnbnljlopopkaaDoorWWords
import Derived.Test.YtcnbnljlopopkaaDoorWLast
import Derived.Test.YtcnbnljlopopkaaDoorWTab
import Derived.Test.YtcnbnljlopopkaaDoorWFour
import Derived.Test.YtcnbnljlopopkaaDoorWQPut
import Derived.Test.YtcnbnljlopopkaaDoorWApart
import Derived.Test.YtcnbnljlopopkaaDoorWArr
import Derived.Test.YtcnbnljlopopkaaDoorWZeros
import Derived.Test.YtcnbnljlopopkaaDoorWFoot
import Derived.Test.YtcnbnljlopopkaaDoorWKept
import Derived.Test.YtcnbnljlopopkaaDoorWShare
import Derived.Test.YtcnbnljlopopkaaDoorWN
import Derived.Test.YtcnbnljlopopkaaDoorWFootNe
import Derived.Test.YtcnbnljlopopkaaDoorWAt
import Derived.Test.YtcnbnljlopopkaaDoorWEqStruct
import Derived.Test.YtcnbnljlopopkaaDoorWRepsOne
import Derived.Test.YtcnbnljlopopkaaDoorWInv
import Derived.Test.YtcnbnljlopopkaaDoorWInvWords
import Derived.Test.YtcnbnljlopopkaaDoorWGuard
import Derived.Test.YtcnbnljlopopkaaDoorWNEv
import Derived.Test.YtcnbnljlopopkaaDoorWMore
import Derived.Test.YtcnbnljlopopkaaDoorLsD
namespace Go.Proofs.YtcnbnljlopopkaaDoor.LsE
open Go.RowKit Go.Proofs.YtcnbnljlopopkaaDoorW.PrintWords Go.Proofs.YtcnbnljlopopkaaDoorW.PrintLast Go.Proofs.YtcnbnljlopopkaaDoorW.PrintMore
attribute [local go_sem] max2_int min2_int max_two min_two max_three min_three max_four min_four   -- for this text's walks alone
set_option linter.unusedVariables false
set_option linter.unusedSimpArgs false



open Go.Maps
open _root_.Go.Proofs.YtcnbnljlopopkaaDoor.LsA
open _root_.Go.Proofs.YtcnbnljlopopkaaDoor.LsB
open _root_.Go.Proofs.YtcnbnljlopopkaaDoor.LsC
open _root_.Go.Proofs.YtcnbnljlopopkaaDoor.LsD
/-! ### matchLevel, walked -/
def RemL (E : List Ent) (p ts : Path) (i : Nat) : List Int := if i < ts.length then mvL E (p ++ ts.take i) (ts.drop i) else if ts.length = 0 then [] else vals E (p ++ ts) ++ vals E (p ++ ts.take (ts.length - 1) ++ [star])
structure MlI (N B base ob : Nat) (T : Trie) (E : List Ent) (p ts : Path) (xs : List Int) (A : Option Addr) (w : World) (i : Nat) (a0 a6 a7 : Option Addr) (ys : List Int) (wr : World) : Prop where
 mem : MemT TK N wr B T E
 clo : CloI base ob (xs ++ ys) wr
 fr : ClF base ob w wr
 row : SRow base ob wr A ts
 e0 : a0 = adR (T.lv (p ++ ts.take i))
 e67 : 0 < i → a6 = adR (T.nd (p ++ ts.take (i - 1) ++ [star])) ∧ a7 = adR (T.nd (p ++ ts.take i))
 z67 : i = 0 → a6 = none ∧ a7 = none
 per : (ys ++ RemL E p ts i).Perm (mvL E p ts)
theorem MlI.step {N B base ob : Nat} {T : Trie} {E : List Ent} {p ts : Path} {xs : List Int} {A : Option Addr} {w : World} {i : Nat} {a0 a6 a7 : Option Addr} {ys : List Int} {wr wx : World} (h : MlI N B base ob T E p ts xs A w i a0 a6 a7 ys wr) {zs : List Int} (hc : CloI base ob (xs ++ (ys ++ zs)) wx) (hf : ClF base ob wr wx) : MemT TK N wx B T E ∧ ClF base ob w wx ∧ SRow base ob wx A ts :=
 ⟨memT_clo h.mem h.clo hf, h.fr.trans hf, h.row.keep hf⟩
theorem takeS {ts : Path} {i : Nat} (h : i < ts.length) : ts.take (i + 1) = ts.take i ++ [ts.getD i ByteArray.empty] := take_snoc h
theorem dropS {ts : Path} {i : Nat} (h : i < ts.length) : ts.drop i = ts.getD i ByteArray.empty :: ts.drop (i + 1) := by
 rw [List.drop_eq_getElem_cons h, List.getD_eq_getElem?_getD, List.getElem?_eq_getElem h]
 rfl
theorem RemL_step {E : List Ent} {p ts : Path} {i : Nat} (h : i < ts.length) : RemL E p ts i = vals E (p ++ ts.take i ++ [gts]) ++ mvL E (p ++ ts.take i ++ [star]) (ts.drop (i + 1)) ++ RemL E p ts (i + 1) := by
 have ht : p ++ ts.take i ++ [ts.getD i ByteArray.empty] = p ++ ts.take (i + 1) := by rw [takeS h, List.append_assoc]
 unfold RemL
 rw [if_pos h, dropS h, mvL, ht]
 congr 1
 rw [List.length_drop]
 by_cases c : i + 1 < ts.length
 ·
  rw [if_neg (by omega), if_pos c]
 ·
  have e : i + 1 = ts.length := by omega
  rw [if_pos (by omega), if_neg c, if_neg (by omega), e, List.take_length, show ts.length - 1 = i by omega]
theorem perm3 {ys a b c r m : List Int} (h : (ys ++ r).Perm m) (hr : r = a ++ b ++ c) {a' b' : List Int} (ha : a'.Perm a) (hb : b'.Perm b) : (ys ++ a' ++ b' ++ c).Perm m := by
 subst hr
 refine List.Perm.trans ?_ h
 rw [List.append_assoc, List.append_assoc, List.append_assoc a b c]
 exact List.Perm.append_left _ (ha.append (List.Perm.append_right _ hb))
theorem len_perm {ys r m : List Int} (h : (ys ++ r).Perm m) : ys.length + r.length = m.length := by rw [← h.length_eq, List.length_append]
set_option maxHeartbeats 40000000 in
set_option maxRecDepth 100000 in
theorem ml_calls (f : Nat) (hf : isClo f) (N B base ob root : Nat) (T : Trie) (E : List Ent) (hL : LogT TK root T E) (hEl : E.length < 1000000) : ∀ (m : Nat) (ts : Path) (A : Option Addr) (c : Nat) (p : Path) (xs : List Int) (w : World), ts.length = m → m < 1000000000 → MemT TK N w B T E → SRow base ob w A ts → ts.length ≤ c → Lit0 ts → (∀ i, i < ts.length → okS (ts.getD i ByteArray.empty)) → CloI base ob xs w → xs.length + (mvL E p ts).length ≤ 1000000 →
  Calls Tryd.prog 73 #[ptR (T.lv p), .slice A ts.length c, .func (.func f) #[] #[.pointer (some ⟨ob, 0, none⟩)]] w fun en w' => CbQ base ob xs (mvL E p ts) w en w' := by
 intro m
 induction m using Nat.strongRecOn with
 | _ m ih =>
 intro ts A c p xs w hm hmb hM hS hc hl0 hok hI hxl
 have HA := Aside0.mk (And.intro ih (And.intro hm (And.intro hmb (And.intro hM (And.intro hS (And.intro hc (And.intro hl0 (And.intro hok (And.intro hI (And.intro hxl (And.intro hL (And.intro hEl hf))))))))))))
 clear ih hm hmb hM hS hc hl0 hok hI hxl hL hEl hf
 show Calls _ _ #[.pointer (adR (T.lv p)), _, _] _ _
 obtain ⟨a00, ha00⟩ : ∃ x, x = adR (T.lv p) := ⟨_, rfl⟩
 rw [← ha00]
 have HA0 := Aside0.mk ha00
 clear ha00
 go_enter Tryd.func73, Tryd.ntmps73
 go_wp2_with fail
 go_loopw [0, 6, 7, 12] (fun v0 v6 v7 v12 wr => ∃ (i : Nat) (a0 a6 a7 : Option Addr) (ys : List Int), v12 = .int .i64 (i : Int) ∧ v0 = .pointer a0 ∧ v6 = .pointer a6 ∧ v7 = .pointer a7 ∧ Aside0 (i ≤ ts.length) ∧ Aside0 (MlI N B base ob T E p ts xs A w i a0 a6 a7 ys wr)) (fun _ _ _ v12 _ => Road.leftOf ts.length v12)
 case atStart =>
  refine ⟨0, _, none, none, [], rfl, rfl, rfl, rfl, ⟨Nat.zero_le _⟩, ⟨HA.out.2.2.2.1, by rw [List.append_nil]; exact HA.out.2.2.2.2.2.2.2.2.1, ClF.refl _ _ _, HA.out.2.2.2.2.1, by rw [HA0.out, List.take_zero, List.append_nil], fun f => absurd f (Nat.lt_irrefl 0), fun _ => ⟨rfl, rfl⟩, ?_⟩⟩
  rw [List.nil_append]
  unfold RemL
  by_cases h : 0 < ts.length
  ·
   rw [if_pos h, List.take_zero, List.append_nil, List.drop_zero]
  ·
   have : ts = [] := List.eq_nil_of_length_eq_zero (by omega)
   subst this
   exact List.Perm.refl _
 case round =>
  obtain ⟨i, a0, a6, a7, ys, rfl, rfl, rfl, rfl, HIL, HI⟩ := hrel
  rcases Nat.lt_or_ge i ts.length with hi | hi
  ·
   have i1 := eq_true (show (i : Int) < (ts.length : Int) by omega)
   have i2 := eq_true hi
   have hbig : ts.length < 1000000000 := by rw [HA.out.2.1]; exact HA.out.2.2.1
   have HWK := Aside0.mk (Road.wrap_nat i (by omega))
   obtain ⟨g, o, eA, -, -, -, hcell⟩ := HI.out.row (by omega)
   subst eA
   have hcs := hcell i hi
   obtain ⟨t, ht⟩ : ∃ x, x = ts.getD i ByteArray.empty := ⟨_, rfl⟩
   have hto := HA.out.2.2.2.2.2.2.2.1 i hi
   have htl := HA.out.2.2.2.2.2.2.1 t (by rw [ht, List.getD_eq_getElem?_getD, List.getElem?_eq_getElem hi]; exact List.getElem_mem hi)
   rw [← ht] at hcs hto
   cases hr : T.lv (p ++ ts.take i) with
   | none =>
    have ha0 : a0 = none := by rw [HI.out.e0, hr]; rfl
    subst ha0
    have HR := Aside0.mk (And.intro hi hr)
    clear hcell ht hto htl hi hr hbig
    go_wp2_with fail
    go_end0
    refine ⟨ys, rfl, ?_, HI.out.clo, HI.out.fr⟩
    have hp := HI.out.per
    unfold RemL at hp
    rw [if_pos HR.out.1, mvL_none _ _ (none_level HI.out.mem HA.out.2.2.2.2.2.2.2.2.2.2.1 HR.out.2), List.append_nil] at hp
    exact hp
   | some r =>
    have ha0 : a0 = some ⟨r.b, 0, none⟩ := by rw [HI.out.e0, hr]; rfl
    subst ha0
    have HT := Aside0.mk (And.intro ht (And.intro hto (And.intro htl (And.intro hi (And.intro hr hbig)))))
    obtain ⟨k1, k2, k3, k4⟩ := HI.out.mem.lvl _ r hr
    obtain ⟨a2, ha2⟩ : ∃ x, x = adR (T.nd (p ++ ts.take i ++ [gts])) := ⟨_, rfl⟩
    have c2 : wr.cell? ⟨r.b, 2, none⟩ = some (.pointer a2) := (cell_of_row wr r.b 2 _ _ _ k3).trans (by rw [ha2]; rfl)
    have HA2 := Aside0.mk ha2
    have hxy : xs.length + ys.length ≤ 1000000 := by have := len_perm HI.out.per; have := HA.out.2.2.2.2.2.2.2.2.2.1; omega
    have HXY := Aside0.mk hxy
    clear hcell ht hto htl hi hr hbig k1 k2 k3 k4 hxy ha2
    go_upto_if 23 with fail
    go_cut [] from 24 to 29 (fun wx => Aside0 (∃ zs, zs.Perm (vals E (p ++ ts.take i ++ [gts])) ∧ CloI base ob (xs ++ (ys ++ zs)) wx ∧ ClF base ob wr wx))
    case first =>
     cases hq : T.nd (p ++ ts.take i ++ [gts]) with
     | none =>
      have ha2 := HA2.out
      rw [hq] at ha2
      have ha2' : a2 = none := ha2
      subst ha2'
      have hv := vals_none (none_below HI.out.mem (by simp) hq)
      have HV := Aside0.mk hv
      clear hq hv ha2
      go_wp2_with fail
      go_meet
      exact ⟨[], by rw [HV.out], by rw [List.append_nil]; exact HI.out.clo, ClF.refl _ _ _⟩
     | some q =>
      have ha2 := HA2.out
      rw [hq] at ha2
      have ha2' : a2 = some ⟨q.b, 0, none⟩ := ha2
      subst ha2'
      have HCB := Aside0.mk (cb_calls f HA.out.2.2.2.2.2.2.2.2.2.2.2.2 N B base ob T E _ q (xs ++ ys) wr HI.out.mem HA.out.2.2.2.2.2.2.2.2.2.2.1.nd (fun e he => (HA.out.2.2.2.2.2.2.2.2.2.2.1.ok e he).2.2) hq HI.out.clo (by rw [List.length_append]; have := HXY.out; have := HA.out.2.2.2.2.2.2.2.2.2.2.2.1; omega))
      clear hq ha2
      go_wp2_with fail
      refine HCB.out.mono ?_
      rintro en w2 ⟨zs, rfl, hz, hcz, hfz⟩
      have HZ := Aside0.mk (And.intro hz (And.intro hcz hfz))
      clear hz hcz hfz HCB
      go_wp2_with fail
      go_meet
      exact ⟨zs, HZ.out.1, by rw [← List.append_assoc]; exact HZ.out.2.1, HZ.out.2.2⟩
    case rest =>
     obtain ⟨zs, hz, hcz, hfz⟩ := hcut.out
     have HZ := Aside0.mk (And.intro hz (And.intro hcz (And.intro hfz (HI.out.step hcz hfz))))
     clear hcut hz hcz hfz c2 hcs
     obtain ⟨wa, hwa⟩ : ∃ x, x = wc := ⟨_, rfl⟩
     rw [← hwa] at HZ
     rw [← hwa]
     clear hwa
     obtain ⟨k1, k2, k3, k4⟩ := HZ.out.2.2.2.1.lvl _ r HT.out.2.2.2.2.1
     obtain ⟨a1, ha1⟩ : ∃ x, x = adR (T.nd (p ++ ts.take i ++ [star])) := ⟨_, rfl⟩
     have c1 : wa.cell? ⟨r.b, 1, none⟩ = some (.pointer a1) := (cell_of_row wa r.b 1 _ _ _ k3).trans (by rw [ha1]; rfl)
     have HA1 := Aside0.mk ha1
     clear k1 k2 k3 k4 ha1
     go_upto_if 35 with fail
     go_cut [] from 36 to 45 (fun wx => Aside0 (∃ zs2, zs2.Perm (mvL E (p ++ ts.take i ++ [star]) (ts.drop (i + 1))) ∧ CloI base ob (xs ++ (ys ++ zs ++ zs2)) wx ∧ ClF base ob wa wx))
     case first =>
      cases hq : T.nd (p ++ ts.take i ++ [star]) with
      | none =>
       have ha1 := HA1.out
       rw [hq] at ha1
       have ha1' : a1 = none := ha1
       subst ha1'
       have HV := Aside0.mk (mvL_none (ts.drop (i + 1)) _ (none_below HZ.out.2.2.2.1 (by simp) hq))
       clear hq ha1
       go_wp2_with fail
       go_meet
       exact ⟨[], by rw [HV.out], by rw [List.append_nil]; exact HZ.out.2.1, ClF.refl _ _ _⟩
      | some q =>
       have ha1 := HA1.out
       rw [hq] at ha1
       have ha1' : a1 = some ⟨q.b, 0, none⟩ := ha1
       subst ha1'
       obtain ⟨aL, haL⟩ : ∃ x, x = adR (T.lv (p ++ ts.take i ++ [star])) := ⟨_, rfl⟩
       have cq : wa.cell? ⟨q.b, 0, none⟩ = some (.pointer aL) := (cell_of_row wa q.b 0 _ _ _ (HZ.out.2.2.2.1.nod _ q hq).2.2.1).trans (by rw [haL]; rfl)
       have hdl : (ts.drop (i + 1)).length = ts.length - (i + 1) := List.length_drop
       have hrem := HI.out.per
       rw [RemL_step HT.out.2.2.2.1] at hrem
       have hlen := hrem.length_eq
       rw [List.length_append, List.length_append, List.length_append] at hlen
       have hzl := HZ.out.1.length_eq
       have hrec : ∀ A' W, Below wa.heap.size wa W → (c = i + 1 ∨ A' = some ⟨g, o + (i + 1), none⟩) → Calls Tryd.prog 73 #[.pointer aL, .slice A' (ts.length - (i + 1)) (c - (i + 1)), .func (.func f) #[] #[.pointer (some ⟨ob, 0, none⟩)]] W fun en w' => CbQ base ob (xs ++ (ys ++ zs)) (mvL E (p ++ ts.take i ++ [star]) (ts.drop (i + 1))) W en w' := fun A' W hWb hA' => by
        have := HA.out.1 (ts.length - (i + 1)) (by have := HA.out.2.1; have := HT.out.2.2.2.1; omega) (ts.drop (i + 1)) A' (c - (i + 1)) (p ++ ts.take i ++ [star]) (xs ++ (ys ++ zs)) W hdl (by have := HA.out.2.1; have := HA.out.2.2.1; omega) (HZ.out.2.2.2.1.below hWb) (by
          rcases hA' with e | e
          ·
           intro f
           have := HA.out.2.2.2.2.2.1
           omega
          ·
           rw [e]
           exact (HZ.out.2.2.2.2.2.keep (ClF.of_below hWb)).drop (i + 1)) (by have := HA.out.2.2.2.2.2.1; omega) (fun x hx => HA.out.2.2.2.2.2.2.1 x (List.mem_of_mem_drop hx)) (fun j hj => by
          have := HA.out.2.2.2.2.2.2.2.1 (i + 1 + j) (by omega)
          rw [List.getD_eq_getElem?_getD, List.getElem?_drop, ← List.getD_eq_getElem?_getD]
          exact this) (HZ.out.2.1.below hWb) (by
          rw [List.length_append, List.length_append]
          have := HA.out.2.2.2.2.2.2.2.2.2.1
          omega)
        rw [hdl] at this
        rw [haL]
        exact this
       have HREC := Aside0.mk hrec
       obtain ⟨j, hj⟩ : ∃ j, j = i + 1 := ⟨_, rfl⟩
       have q1 := eq_true (show (j : Int) ≤ (ts.length : Int) by have := HT.out.2.2.2.1; omega)
       have q2 := eq_true (show j ≤ ts.length by have := HT.out.2.2.2.1; omega)
       have q3 := eq_true (show ts.length ≤ c from HA.out.2.2.2.2.2.1)
       have q6 := eq_true (show (0 : Int) ≤ (j : Int) by omega)
       have q5 := eq_true (show j ≤ c by have := HT.out.2.2.2.1; have := HA.out.2.2.2.2.2.1; omega)
       rw [← hj] at HREC
       have HJ := Aside0.mk hj
       have HWJ := Aside0.mk (Road.wi64 ((i : Int) + 1) (j : Int) (by omega) (by omega) (by have := HT.out.2.2.2.2.2; have := HT.out.2.2.2.1; omega))
       have hcap0 := HA.out.2.2.2.2.2.1
       clear hq ha1 haL hdl hrem hlen hzl hrec hcap0 hj
       by_cases hcap : c = j
       ·
        have HCP := Aside0.mk hcap
        have q4 := eq_true hcap
        clear hcap
        have wk := HWK.out
        rw [← HJ.out] at wk
        have wki := HWJ.out
        go_wp2_with fail
        go_still_tail 9, (by kernel_rfl)
        clear wk wki
        change wpList _ _ _ _ _ (wa.drew)
        go_wp2_with fail
        refine (HREC.out (some ⟨g, o, none⟩) wa.drew (below_drew (Below.refl _ _)) (.inl (by have := HCP.out; have := HJ.out; omega))).mono ?_
        rintro en w2 ⟨zs2, rfl, hz2, hc2, hf2⟩
        have HZ2 := Aside0.mk (And.intro hz2 (And.intro hc2 ((ClF.of_below (below_drew (Below.refl wa.heap.size wa))).trans hf2)))
        clear hz2 hc2 hf2 HREC
        go_wp2_with fail
        go_meet
        exact ⟨zs2, by rw [← HJ.out]; exact HZ2.out.1, by rw [← List.append_assoc]; exact HZ2.out.2.1, HZ2.out.2.2⟩
       ·
        have HCP := Aside0.mk hcap
        have q4 := eq_false hcap
        clear hcap
        have wk := HWK.out
        rw [← HJ.out] at wk
        have wki := HWJ.out
        go_wp2_with fail
        go_still_tail 9, (by kernel_rfl)
        clear wk wki
        change wpList _ _ _ _ _ (wa.drew)
        go_wp2_with fail
        refine (HREC.out (some ⟨g, o + j, none⟩) wa.drew (below_drew (Below.refl _ _)) (.inr (by rw [HJ.out]))).mono ?_
        rintro en w2 ⟨zs2, rfl, hz2, hc2, hf2⟩
        have HZ2 := Aside0.mk (And.intro hz2 (And.intro hc2 ((ClF.of_below (below_drew (Below.refl wa.heap.size wa))).trans hf2)))
        clear hz2 hc2 hf2 HREC
        go_wp2_with fail
        go_meet
        exact ⟨zs2, by rw [← HJ.out]; exact HZ2.out.1, by rw [← List.append_assoc]; exact HZ2.out.2.1, HZ2.out.2.2⟩
     case rest =>
      obtain ⟨zs2, hz2, hc2, hf2⟩ := hcut.out
      have HZ2 := Aside0.mk (And.intro hz2 (And.intro hc2 hf2))
      clear hcut hz2 hc2 hf2 c1
      obtain ⟨wb, hwb⟩ : ∃ x, x = wc := ⟨_, rfl⟩
      rw [← hwb] at HZ2
      rw [← hwb]
      clear hwb
      have hMb : MemT TK N wb B T E := memT_clo HZ.out.2.2.2.1 HZ.out.2.1 HZ2.out.2.2
      have hSb := HZ.out.2.2.2.2.2.keep HZ2.out.2.2
      have hFb := HZ.out.2.2.2.2.1.trans HZ2.out.2.2
      obtain ⟨k1, k2, k3, k4⟩ := hMb.lvl _ r HT.out.2.2.2.2.1
      have c0 : wb.cell? ⟨r.b, 0, none⟩ = some (.map (some r.m)) := (cell_of_row wb r.b 0 _ _ _ k3).trans rfl
      have hlook := NAt.look k4 HT.out.2.1 (T.nd (p ++ ts.take i ++ [t])) (fun d => ⟨fun f => f.2.2, fun f => ⟨HT.out.2.2.1.1, HT.out.2.2.1.2, f⟩⟩)
      have hper : (ys ++ zs ++ zs2 ++ RemL E p ts (i + 1)).Perm (mvL E p ts) := perm3 HI.out.per (RemL_step HT.out.2.2.2.1) HZ.out.1 HZ2.out.1
      have hts : p ++ ts.take (i + 1) = p ++ ts.take i ++ [t] := by rw [takeS HT.out.2.2.2.1, ← HT.out.1, List.append_assoc]
      have HB := Aside0.mk (And.intro hMb (And.intro hSb (And.intro hFb (And.intro hper hts))))
      clear k1 k2 k3 k4 hSb hFb hper hts
      cases hq : T.nd (p ++ ts.take i ++ [t]) with
      | none =>
       rw [hq] at hlook
       change _ = Result.ok (Value.pointer none) wb at hlook
       have hlv : T.lv (p ++ ts.take i ++ [t]) = none := by
        cases g : T.lv (p ++ ts.take i ++ [t]) with
        | none => rfl
        | some x =>
         rcases hMb.dn _ (some_ne g) with e | e
         ·
          exact absurd e (by simp)
         ·
          exact absurd hq e
       have HQ := Aside0.mk (And.intro hq hlv)
       clear hq hlv hMb
       go_wp2_with fail
       go_roundw
       case rel =>
        obtain ⟨hMb, hSb, hFb, hper, hts⟩ := HB.out
        refine ⟨i + 1, none, a1, none, ys ++ zs ++ zs2, congrArg (Value.int .i64) HWK.out, rfl, rfl, rfl, ⟨HT.out.2.2.2.1⟩, ⟨hMb, HZ2.out.2.1, hFb, hSb, ?_, fun _ => ⟨?_, ?_⟩, fun f => absurd f (Nat.succ_ne_zero i), hper⟩⟩
        ·
         rw [hts, HQ.out.2]; rfl
        ·
         rw [Nat.add_sub_cancel]; exact HA1.out
        ·
         rw [hts, HQ.out.1]; rfl
       case measure => rw [HWK.out]; exact Road.leftOf_lt (of_eq_true i2)
      | some q =>
       rw [hq] at hlook
       change _ = Result.ok (Value.pointer (some ⟨q.b, 0, none⟩)) wb at hlook
       obtain ⟨aL, haL⟩ : ∃ x, x = adR (T.lv (p ++ ts.take i ++ [t])) := ⟨_, rfl⟩
       have cq : wb.cell? ⟨q.b, 0, none⟩ = some (.pointer aL) := (cell_of_row wb q.b 0 _ _ _ (hMb.nod _ q hq).2.2.1).trans (by rw [haL]; rfl)
       have HQ := Aside0.mk (And.intro hq haL)
       clear hq haL hMb
       go_wp2_with fail
       go_roundw
       case rel =>
        obtain ⟨hMb, hSb, hFb, hper, hts⟩ := HB.out
        refine ⟨i + 1, aL, a1, some ⟨q.b, 0, none⟩, ys ++ zs ++ zs2, congrArg (Value.int .i64) HWK.out, rfl, rfl, rfl, ⟨HT.out.2.2.2.1⟩, ⟨hMb, HZ2.out.2.1, hFb, hSb, ?_, fun _ => ⟨?_, ?_⟩, fun f => absurd f (Nat.succ_ne_zero i), hper⟩⟩
        ·
         rw [hts]; exact HQ.out.2
        ·
         rw [Nat.add_sub_cancel]; exact HA1.out
        ·
         rw [hts, HQ.out.1]; rfl
       case measure => rw [HWK.out]; exact Road.leftOf_lt (of_eq_true i2)
  ·
   -- behind the last token
   have i1 := eq_false (show ¬ (i : Int) < (ts.length : Int) by omega)
   have i2 := eq_false (show ¬ i < ts.length by omega)
   have hie : i = ts.length := by have := HIL.out; omega
   have HE := Aside0.mk hie
   clear hi hie
   by_cases h0 : i = 0
   ·
    obtain ⟨z6, z7⟩ := HI.out.z67 h0
    subst z6 z7
    have H0 := Aside0.mk h0
    clear h0
    go_wp2_with fail
    go_end0
    refine ⟨ys, rfl, ?_, HI.out.clo, HI.out.fr⟩
    have hp := HI.out.per
    unfold RemL at hp
    rw [if_neg (by have := HE.out; omega), if_pos (by have := HE.out; have := H0.out; omega), List.append_nil] at hp
    exact hp
   ·
    obtain ⟨e6, e7⟩ := HI.out.e67 (by omega)
    have hp := HI.out.per
    unfold RemL at hp
    rw [if_neg (by have := HE.out; omega), if_neg (by have := HE.out; omega)] at hp
    rw [HE.out, List.take_length] at e7
    rw [HE.out] at e6
    have hlp := hp.length_eq
    rw [List.length_append, List.length_append] at hlp
    have hxm := HA.out.2.2.2.2.2.2.2.2.2.1
    have hpne : p ++ ts ≠ [] := by
     intro f
     have := congrArg List.length f
     rw [List.length_append, List.length_nil] at this
     have := HE.out
     omega
    have HP := Aside0.mk (And.intro hp (And.intro e6 (And.intro e7 (And.intro hpne (by omega : xs.length + ys.length + (vals E (p ++ ts)).length ≤ 1000000)))))
    clear h0 e6 e7 hp hlp hxm hpne
    go_upto_if 60 with fail
    go_cut [] from 61 to 63 (fun wx => Aside0 (∃ zs, zs.Perm (vals E (p ++ ts)) ∧ CloI base ob (xs ++ (ys ++ zs)) wx ∧ ClF base ob wr wx))
    case first =>
     cases hq : T.nd (p ++ ts) with
     | none =>
      have e7 := HP.out.2.2.1
      rw [hq] at e7
      have e7' : a7 = none := e7
      subst e7'
      have HV := Aside0.mk (vals_none (none_below HI.out.mem HP.out.2.2.2.1 hq))
      clear hq e7
      go_wp2_with fail
      go_meet
      exact ⟨[], by rw [HV.out], by rw [List.append_nil]; exact HI.out.clo, ClF.refl _ _ _⟩
     | some q =>
      have e7 := HP.out.2.2.1
      rw [hq] at e7
      have e7' : a7 = some ⟨q.b, 0, none⟩ := e7
      subst e7'
      have HCB := Aside0.mk (cb_calls f HA.out.2.2.2.2.2.2.2.2.2.2.2.2 N B base ob T E _ q (xs ++ ys) wr HI.out.mem HA.out.2.2.2.2.2.2.2.2.2.2.1.nd (fun e he => (HA.out.2.2.2.2.2.2.2.2.2.2.1.ok e he).2.2) hq HI.out.clo (by rw [List.length_append]; have := HP.out.2.2.2.2; have := HA.out.2.2.2.2.2.2.2.2.2.2.2.1; omega))
      clear hq e7
      go_wp2_with fail
      refine HCB.out.mono ?_
      rintro en w2 ⟨zs, rfl, hz, hcz, hfz⟩
      have HZ := Aside0.mk (And.intro hz (And.intro hcz hfz))
      clear hz hcz hfz HCB
      go_wp2_with fail
      go_meet
      exact ⟨zs, HZ.out.1, by rw [← List.append_assoc]; exact HZ.out.2.1, HZ.out.2.2⟩
    case rest =>
     obtain ⟨zs, hz, hcz, hfz⟩ := hcut.out
     have HZ := Aside0.mk (And.intro hz (And.intro hcz (And.intro hfz (HI.out.step hcz hfz))))
     clear hcut hz hcz hfz
     obtain ⟨wa, hwa⟩ : ∃ x, x = wc := ⟨_, rfl⟩
     rw [← hwa] at HZ
     rw [← hwa]
     clear hwa
     have hfin : ∀ zs2, zs2.Perm (vals E (p ++ ts.take (ts.length - 1) ++ [star])) → (ys ++ zs ++ zs2).Perm (mvL E p ts) := fun zs2 h2 => by
      have hp := HP.out.1
      refine List.Perm.trans ?_ hp
      rw [List.append_assoc]
      exact List.Perm.append_left _ (HZ.out.1.append h2)
     have HFIN := Aside0.mk hfin
     clear hfin
     cases hq : T.nd (p ++ ts.take (ts.length - 1) ++ [star]) with
     | none =>
      have e6 := HP.out.2.1
      rw [hq] at e6
      have e6' : a6 = none := e6
      subst e6'
      have HV := Aside0.mk (vals_none (none_below HZ.out.2.2.2.1 (by simp) hq))
      clear hq e6
      go_wp2_with fail
      go_end0
      exact ⟨ys ++ zs, rfl, by have := HFIN.out [] (by rw [HV.out]); rwa [List.append_nil] at this, HZ.out.2.1, HZ.out.2.2.2.2.1⟩
     | some q =>
      have e6 := HP.out.2.1
      rw [hq] at e6
      have e6' : a6 = some ⟨q.b, 0, none⟩ := e6
      subst e6'
      have hzl := HZ.out.1.length_eq
      have HCB := Aside0.mk (cb_calls f HA.out.2.2.2.2.2.2.2.2.2.2.2.2 N B base ob T E _ q (xs ++ (ys ++ zs)) wa HZ.out.2.2.2.1 HA.out.2.2.2.2.2.2.2.2.2.2.1.nd (fun e he => (HA.out.2.2.2.2.2.2.2.2.2.2.1.ok e he).2.2) hq HZ.out.2.1 (by rw [List.length_append, List.length_append]; have := HP.out.2.2.2.2; have := HA.out.2.2.2.2.2.2.2.2.2.2.2.1; omega))
      clear hq e6 hzl
      go_wp2_with fail
      refine HCB.out.mono ?_
      rintro en w2 ⟨zs2, rfl, hz2, hc2, hf2⟩
      have HZ2 := Aside0.mk (And.intro hz2 (And.intro hc2 hf2))
      clear hz2 hc2 hf2 HCB
      go_wp2_with fail
      go_end0
      exact ⟨ys ++ zs ++ zs2, rfl, HFIN.out zs2 HZ2.out.1, by rw [← List.append_assoc]; exact HZ2.out.2.1, HZ.out.2.2.2.2.1.trans HZ2.out.2.2⟩
/-! ### match: the tokens of a subject -/
theorem info_str : (Tryd.prog.info? 9).map (fun i => (i.zero, i.size, i.bytes)) = some (some (.string ⟨#[]⟩), 1, 16) := by kernel_rfl
theorem zero_strs32 (w : World) : (Instr.build 114 #[]).run Tryd.prog w = .ok (.agg Road.strs32) w := by kernel_rfl
theorem new_strs32 (w : World) : (Instr.alloc 114 true (.tuple #[])).run Tryd.prog w = .ok (.pointer (some ⟨w.heap.size, 0, none⟩)) (w.alloc (.cells Road.strs32 114)) := by kernel_rfl
theorem info_strs32 : (Tryd.prog.info? 114).map (·.size) = some Road.strs32.size := by kernel_rfl
def FullT (s : ByteArray) : Prop := ∀ t ∈ TK s, t.size ≠ 0
theorem size_ext (s : ByteArray) (a b : Nat) : (s.extract a b).size = min b s.size - a := by
 rw [← Road.bl_len, Road.bl_extract, List.length_drop, List.length_take, Road.bl_len]
theorem full_dot {s : ByteArray} {out : List ByteArray} {a i : Int} (hF : FullT s) (h : Road.TokAt s (out ++ [s.extract a.toNat i.toNat]) (wrap64 (i + 1)) (wrap64 (i + 1))) (h0 : 0 ≤ a) (h1 : a ≤ i) (h2 : i ≤ s.size) : a < i := by
 have hm : s.extract a.toNat i.toNat ∈ TK s := by
  show _ ∈ Road.tokB s
  rw [← h.2.2.2.2]
  exact List.mem_append_left _ (List.mem_append_right _ List.mem_cons_self)
 have := hF _ hm
 rw [size_ext] at this
 omega
theorem full_last {s : ByteArray} {out : List ByteArray} {a : Int} (hF : FullT s) (h : out ++ [s.extract a.toNat s.size] = Road.tokB s) (h0 : 0 ≤ a) : a < s.size := by
 have hm : s.extract a.toNat s.size ∈ TK s := by
  show _ ∈ Road.tokB s
  rw [← h]
  exact List.mem_append_right _ List.mem_cons_self
 have := hF _ hm
 rw [size_ext] at this
 omega
/-- What was found has been put into the variable; all else stands but the list's head. -/
def MatQ (ob hb : Nat) (zs : List Int) (w : World) (en : Ending) (w' : World) : Prop :=
 ∃ ys sv, en = .returned (.tuple #[]) ∧ ys.Perm zs ∧ w'.heap[ob]? = some (.cells #[sv] 40 (0, 0)) ∧ Kd.R (Kd.int .i64) 3 w' w.heap.size (fun _ => True) sv ys ∧ w'.os = w.os ∧ w'.tape = w.tape ∧ w'.output = w.output ∧ w.heap.size ≤ w'.heap.size ∧ ∀ k, k < w.heap.size → k ≠ ob → k ≠ hb → w'.heap[k]? = w.heap[k]?
set_option maxHeartbeats 40000000 in
set_option maxRecDepth 100000 in
theorem match_calls (f : Nat) (hf : isClo f) (N B hb ob : Nat) (E : List Ent) (s : ByteArray) (w : World) (h : ListAt TK N w B hb E) (hBw : B ≤ w.heap.size) (hs : s.size ≤ 100000) (hF : FullT s) (hl0 : Lit0 (TK s)) (hEl : E.length < 1000000) (hob : w.heap[ob]? = some (.cells #[.slice none 0 0] 40 (0, 0))) :
  Calls Tryd.prog 56 #[.pointer (some ⟨hb, 0, none⟩), .string s, .func (.func f) #[] #[.pointer (some ⟨ob, 0, none⟩)], .bool true] w fun en w' => MatQ ob hb (mvL E [] (TK s)) w en w' := by
 obtain ⟨root, T, hH, hM, hL⟩ := h
 have HS := Aside0.mk (And.intro hs hF)
 have HA := Aside0.mk (And.intro hH (And.intro hM (And.intro hL (And.intro hBw (And.intro hl0 (And.intro hEl (And.intro hob hf)))))))
 clear hH hM hL hBw hs hF hl0 hEl hob hf
 go_enter_defers Tryd.func56, Tryd.ntmps56
 go_wp2_with (refine Road.wpList_zeroVar 114 12 8 Road.strs32 rfl rfl rfl rfl rfl rfl rfl rfl rfl zero_strs32 new_strs32 info_strs32 Road.strs32_one rfl rfl (by decide) ?_)
 have hr0 : Road.AnyRow (w.alloc (.cells Road.strs32 114)) w.heap.size 1 (.slice (some ⟨w.heap.size, 0, none⟩) 0 32) ([] : List ByteArray).length (([] : List ByteArray).map Value.string) := Road.strs32_row w w.heap.size 114 (Nat.le_refl _)
 have hb0 : Below w.heap.size w (w.alloc (.cells Road.strs32 114)) := below_alloc (Below.refl _ _) _
 have HR := Aside0.mk hr0
 have HB := Aside0.mk hb0
 clear hr0 hb0
 go_loopw [9, 10, 11] (fun v v5 v6 w' => ∃ (out : List ByteArray) (x5 x6 : Int), v5 = .int .i64 x5 ∧ v6 = .int .i64 x6 ∧ Aside0 (Road.TokAt s out x5 x6) ∧ Aside0 (Road.AnyRow w' w.heap.size 1 v out.length (out.map Value.string)) ∧ Aside0 (Below w.heap.size w w')) (fun _ _ v6 _ => s.size - (intOf v6).toNat)
 case atStart => exact ⟨[], 0, 0, rfl, rfl, ⟨Road.TokAt.start s⟩, HR, HB⟩
 case round =>
  clear HR HB
  obtain ⟨out, x5, x6, rfl, rfl, HT, HR, HB⟩ := hrel
  have z1 := HT.out.1
  have z2 := HT.out.2.1
  have z3 := HT.out.2.2.1
  have z4 : out.length ≤ 2147483647 := by have := HT.out.2.2.2.1; have := HS.out.1; omega
  have Z4 := Aside0.mk z4
  clear z4
  by_cases c3 : x6 < (s.size : Int)
  ·
   have c3b0 : decide (x6 < (s.size : Int)) = true := decide_eq_true c3
   have hm : Aside0 (wrap64 (x6 + 1) = x6 + 1 ∧ 0 ≤ x6) := ⟨by have := HS.out.1; unfold wrap64; omega⟩
   have p5 : 0 ≤ (x6 : Int) := by omega
   by_cases c6 : (bt s x6) = 46
   ·
    have c6b0 : ((bt s x6) == 46) = true := beq_iff_eq.mpr c6
    have c6b1 : ((bt s x6) != 46) = false := bne_eq_false_iff_eq.mpr c6
    have HT2 := Aside0.mk (Road.TokAt.dot HT.out c3 (by have := HS.out.1; omega) c6)
    have hlt := full_dot HS.out.2 HT2.out z1 z2 z3
    have hsub := Aside0.mk (Road.w64 (x6 - x5) (x6 - x5) rfl (by omega) (by have := HS.out.1; omega))
    have d1 : ((x6 - x5) == 0) = false := beq_eq_false_iff_ne.2 (by omega)
    have d2 := eq_false (show ¬ x6 - x5 = 0 by omega)
    clear c6 HT
    have HC := Aside0.mk c3
    have c7b0 := eq_true (show 0 ≤ x5 by omega)
    have c7b1 : decide (0 ≤ x5) = true := decide_eq_true (by omega)
    have c8b0 := eq_true z2
    have c8b1 : decide (x5 ≤ x6) = true := decide_eq_true z2
    have c9b0 := eq_true z3
    have c9b1 : decide (x6 ≤ (s.size : Int)) = true := decide_eq_true z3
    have q5 := eq_true c3
    have hx5 := bt_at s x6
    replace p5 := eq_true p5
    clear z1 z2 z3 c3 hlt
    have hs2 := hsub.out
    go_wp2_with (first | ((with_reducible refine gate_builtin (b := .append) (xs := #[.tmp 28, .tmp 33]) rfl ?_); at_builtin; refine Road.AnyRow.append (w0 := w) rfl (.tmp 28) (.tmp 33) 35 9 (.string ⟨#[]⟩) 1 16 rfl Tryd.underlying35 info_str rfl (by decide) u9 out.length (out.map Value.string) [.string (s.extract (x5 : Int).toNat (x6 : Int).toNat)] rfl rfl rfl ?h1 ?h2 ?h3 ?h4 ?h5 ?_; (case h1 => intro u hu; rw [List.mem_singleton.1 hu]; rfl); (case h2 => have := Z4.out; simp only [maxLen]; omega); (case h3 => have := Z4.out; omega); (case h4 => exact HR.out); (case h5 => exact HB.out); intro v126 w11 ho hb; have n1_ := Aside0.mk ho; have n2_ := Aside0.mk hb; clear HB HR ho hb) | fail)
    go_roundw
    case rel => exact ⟨out ++ [s.extract (x5 : Int).toNat (x6 : Int).toNat], _, _, rfl, rfl, HT2, ⟨by have := n1_.out; simpa using this⟩, n2_⟩
    case measure => clear hs2; simp only [intOf]; have := hm.out; have := HC.out; omega
   ·
    have c6b0 : ((bt s x6) == 46) = false := beq_eq_false_iff_ne.mpr c6
    have c6b1 : ((bt s x6) != 46) = true := bne_iff_ne.mpr c6
    have HT2 := Aside0.mk (Road.TokAt.skip HT.out c3 (by have := HS.out.1; omega) c6)
    clear c6 HT
    have HC := Aside0.mk c3
    have q5 := eq_true c3
    have hx5 := bt_at s x6
    replace p5 := eq_true p5
    clear z1 z2 z3 c3
    go_wp2
    go_roundw
    case rel => exact ⟨out, _, _, rfl, rfl, HT2, HR, HB⟩
    case measure => simp only [intOf]; have := hm.out; have := HC.out; omega
  ·
   have c3b0 : decide (x6 < (s.size : Int)) = false := decide_eq_false c3
   have HT2 := Aside0.mk (Road.TokAt.last HT.out c3)
   clear HT
   have hlt := full_last HS.out.2 HT2.out z1
   have c12b0 := eq_true (show 0 ≤ x5 by omega)
   have c12b1 : decide (0 ≤ x5) = true := decide_eq_true (by omega)
   have c13b0 := eq_true (show x5 ≤ (s.size : Int) by omega)
   have c13b1 : decide (x5 ≤ (s.size : Int)) = true := decide_eq_true (by omega)
   have c14b0 := eq_false (show ¬ (s.size : Int) ≤ x5 by omega)
   have c14b1 : decide ((s.size : Int) ≤ x5) = false := decide_eq_false (by omega)
   have c14b2 : decide (x5 ≥ (s.size : Int)) = false := decide_eq_false (by omega)
   clear z1 z2 z3 c3 hlt
   go_wp2_with (first | ((with_reducible refine gate_builtin (b := .append) (xs := #[.tmp 41, .tmp 45]) rfl ?_); at_builtin; refine Road.AnyRow.append (w0 := w) rfl (.tmp 41) (.tmp 45) 35 9 (.string ⟨#[]⟩) 1 16 rfl Tryd.underlying35 info_str rfl (by decide) u9 out.length (out.map Value.string) [.string (s.extract (x5 : Int).toNat s.size)] rfl rfl rfl ?h1 ?h2 ?h3 ?h4 ?h5 ?_; (case h1 => intro u hu; rw [List.mem_singleton.1 hu]; rfl); (case h2 => have := Z4.out; simp only [maxLen]; omega); (case h3 => have := Z4.out; omega); (case h4 => exact HR.out); (case h5 => exact HB.out); intro v126 w11 ho hb; have n1_ := Aside0.mk ho; have n2_ := Aside0.mk hb; clear HB HR ho hb) | fail)
   have hrow : Road.AnyRow w11 w.heap.size 1 v126 (TK s).length ((TK s).map Value.string) := by
    rw [show TK s = Road.tokB s from rfl, ← HT2.out]
    have := n1_.out
    simpa using this
   obtain ⟨A, cap, hv126, hcap, hA⟩ := Road.AnyRow.form hrow
   subst hv126
   obtain ⟨m, hroot⟩ := HA.out.2.2.1.rt
   have hh11 : HeadAt w11 hb 0 0 root (E.length : Int) := (n2_.out.block _ (lt_some HA.out.1)).trans HA.out.1
   have HLK := Aside0.mk (rlock_calls w11 hb root _ hh11)
   have HX := Aside0.mk (And.intro hcap (And.intro hA (And.intro hroot hh11)))
   clear hrow hcap hA hroot hh11 n1_ HT2 c3b0 c12b0 c12b1 c13b0 c13b1 c14b0 c14b1 c14b2
   refine HLK.out.mono ?_
   rintro en w12 ⟨rfl, h12, g12⟩
   have c6 := h12.cell 6 _ rfl
   have hobn : ob ≠ hb := ne_obj HA.out.2.2.2.2.2.2.1 HA.out.1 (cells_ne (by decide))
   have hb12 : ∀ k, k < w.heap.size → k ≠ hb → w12.heap[k]? = w.heap[k]? := fun k hk hne => (g12.block k (Nat.lt_of_lt_of_le hk n2_.out.size) (fun f => hne (by injection f))).trans (n2_.out.block k hk)
   have hsz12 : w.heap.size ≤ w12.heap.size := Nat.le_trans n2_.out.size g12.size
   have hob12 := (hb12 ob (lt_some HA.out.2.2.2.2.2.2.1) hobn).trans HA.out.2.2.2.2.2.2.1
   have hM12 : MemT TK N w12 B T E := (HA.out.2.1.below n2_.out).keepH HX.out.2.2.2 g12
   have hS12 : SRow w12.heap.size ob w12 A (TK s) := fun hn => by
    obtain ⟨g, e, g1, g2, g3⟩ := HX.out.2.1 hn
    have hgne : g ≠ hb := by have := lt_some HA.out.1; omega
    refine ⟨g, 0, e, Nat.lt_of_lt_of_le g2 g12.size, by have := lt_some HA.out.2.2.2.2.2.2.1; omega, Nat.lt_of_lt_of_le g2 g12.size, fun i hi => ?_⟩
    rw [Nat.zero_add, cell_same (g12.block g g2 (fun f => hgne (by injection f))) i]
    refine g3 i _ ?_
    rw [List.getElem?_map, List.getElem?_eq_getElem hi, List.getD_eq_getElem?_getD, List.getElem?_eq_getElem hi]
    rfl
   have hc12 : CloI w12.heap.size ob [] w12 := ⟨Nat.le_refl _, Nat.lt_of_lt_of_le (lt_some HA.out.2.2.2.2.2.2.1) hsz12, _, hob12, Kd.R_nil _ _ _ _ _⟩
   have hlen := mvL_len E (TK s) [] HA.out.2.2.2.2.1
   have hml := ml_calls f HA.out.2.2.2.2.2.2.2 N B w12.heap.size ob root T E HA.out.2.2.1 HA.out.2.2.2.2.2.1 (TK s).length (TK s) A cap [] [] w12 rfl (by have := TK_len s; have := HS.out.1; omega) hM12 hS12 HX.out.1 HA.out.2.2.2.2.1 (fun i hi => TK_ok HS.out.1 i hi) hc12 (by have := HA.out.2.2.2.2.2.1; simp only [List.length_nil]; omega)
   rw [HX.out.2.2.1] at hml
   have HML := Aside0.mk (show Calls Tryd.prog 73 #[.pointer (some ⟨root, 0, none⟩), .slice A (TK s).length cap, .func (.func f) #[] #[.pointer (some ⟨ob, 0, none⟩)]] w12 fun en w' => CbQ w12.heap.size ob [] (mvL E [] (TK s)) w12 en w' from hml)
   have H12 := Aside0.mk (And.intro h12 (And.intro hobn (And.intro hb12 hsz12)))
   have hbs := Aside0.mk (And.intro n2_.out.os (And.intro n2_.out.tape n2_.out.output))
   have hgs := Aside0.mk (And.intro g12.os (And.intro g12.tape g12.output))
   clear h12 g12 hobn hb12 hsz12 hob12 hM12 hS12 hc12 hlen hml HLK n2_
   go_wp2_with fail
   refine HML.out.mono ?_
   rintro en w13 ⟨ys, rfl, hp, hc, hf'⟩
   have hh13 := hf'.keep _ _ H12.out.1 (.inl rfl) (Ne.symm H12.out.2.1)
   have H13 := Aside0.mk (And.intro hp (And.intro hc (And.intro hf' hh13)))
   clear hp hc hf' hh13 HML
   go_wp2_with fail
   refine leaves_cons (f := 52) (args := #[.pointer (some ⟨hb, 0, none⟩)]) (by simp) (by simp [go_sem]) ?_
   refine (runlock_calls_d .returning _ hb root _ H13.out.2.2.2).mono ?_
   rintro e u' w14 ⟨rfl, rfl, h14, g14⟩
   obtain ⟨hp, ⟨hcs, hcl, sv, hco, hcR⟩, hf', hh13⟩ := H13.out
   have hks : ∀ (k : Nat), k < w.heap.size → k ≠ ob → k ≠ hb → w14.heap[k]? = w.heap[k]? := fun k hk h1 h2 => by
    have e1 := H12.out.2.2.1 k hk h2
    obtain ⟨o, ho⟩ : ∃ o, w.heap[k]? = some o := ⟨_, Array.getElem?_eq_getElem hk⟩
    have e2 := hf'.keep k o (e1.trans ho) (.inr (Nat.lt_of_lt_of_le hk H12.out.2.2.2)) h1
    exact ((g14.block k (lt_some e2) (fun f => h2 (by injection f))).trans e2).trans ho.symm
   refine ⟨_, results_none rfl _ _ _, ys, sv, rfl, hp, (g14.block _ (lt_some hco) (fun f => H12.out.2.1 (by injection f))).trans hco, ?_, g14.os.trans (hf'.os.trans (hgs.out.1.trans hbs.out.1)), g14.tape.trans (hf'.tape.trans (hgs.out.2.1.trans hbs.out.2.1)), g14.output.trans (hf'.output.trans (hgs.out.2.2.trans hbs.out.2.2)), Nat.le_trans H12.out.2.2.2 (Nat.le_trans hf'.size g14.size), hks⟩
   have hR13 := Kd.R_mono (Kd.R_lower hcR H12.out.2.2.2) (ok' := fun _ => True) (fun _ _ => trivial)
   rw [List.nil_append] at hR13
   exact RI_keep hR13 (ChL.set (B := 0) (Nat.zero_le _) hh13 rfl g14).typ
/-! ### Match, MatchBytes, impl.ListMatch -/
def matOk (E : List Ent) (s : ByteArray) : Prop := s.size ≤ 100000 ∧ FullT s ∧ Lit0 (TK s) ∧ E.length < 1000000
set_option maxRecDepth 100000 in
theorem Match_calls (f : Nat) (hf : isClo f) (N B hb ob : Nat) (E : List Ent) (s : ByteArray) (w : World) (h : ListAt TK N w B hb E) (hBw : B ≤ w.heap.size) (ho : matOk E s) (hob : w.heap[ob]? = some (.cells #[.slice none 0 0] 40 (0, 0))) :
  Calls Tryd.prog 39 #[.pointer (some ⟨hb, 0, none⟩), .string s, .func (.func f) #[] #[.pointer (some ⟨ob, 0, none⟩)]] w fun en w' => MatQ ob hb (mvL E [] (TK s)) w en w' := by
 have HC := Aside0.mk (match_calls f hf N B hb ob E s w h hBw ho.1 ho.2.1 ho.2.2.1 ho.2.2.2 hob)
 clear h hBw ho hob hf
 go_enter Tryd.func39, Tryd.ntmps39
 go_wp2_with fail
 refine HC.out.mono ?_
 rintro en w1 ⟨ys, sv, rfl, h1⟩
 have H1 := Aside0.mk h1
 clear h1 HC
 go_wp2_with fail
 go_end0
 exact ⟨ys, sv, rfl, H1.out⟩
set_option maxRecDepth 100000 in
theorem MatchBytes_calls (f : Nat) (hf : isClo f) (N B hb ob : Nat) (E : List Ent) (s : ByteArray) (v : Value) (w : World) (h : ListAt TK N w B hb E) (hBw : B ≤ w.heap.size) (ho : matOk E s) (hob : w.heap[ob]? = some (.cells #[.slice none 0 0] 40 (0, 0))) (hv : (convert 62 9 v).run Tryd.prog w = .ok (.string s) w) :
  Calls Tryd.prog 37 #[.pointer (some ⟨hb, 0, none⟩), v, .func (.func f) #[] #[.pointer (some ⟨ob, 0, none⟩)]] w fun en w' => MatQ ob hb (mvL E [] (TK s)) w en w' := by
 have HC := Aside0.mk (match_calls f hf N B hb ob E s w h hBw ho.1 ho.2.1 ho.2.2.1 ho.2.2.2 hob)
 clear h hBw ho hob hf
 go_enter Tryd.func37, Tryd.ntmps37
 go_wp2_with fail
 refine HC.out.mono ?_
 rintro en w1 ⟨ys, sv, rfl, h1⟩
 have H1 := Aside0.mk h1
 clear h1 HC
 go_wp2_with fail
 go_end0
 exact ⟨ys, sv, rfl, H1.out⟩
def LmQ (zs : List Int) (w : World) (en : Ending) (w' : World) : Prop := ∃ v ys, en = .returned v ∧ ys.Perm zs ∧ Kd.R (Kd.int .i64) 3 w' w.heap.size (fun _ => True) v ys ∧ Below w.heap.size w w'
/-- What the variable holds in the end. -/
theorem MatQ.fin {ob hb : Nat} {zs ys : List Int} {w0 w w' : World} {sv : Value} (h : w'.heap[ob]? = some (.cells #[sv] 40 (0, 0)) ∧ Kd.R (Kd.int .i64) 3 w' w.heap.size (fun _ => True) sv ys ∧ w'.os = w.os ∧ w'.tape = w.tape ∧ w'.output = w.output ∧ w.heap.size ≤ w'.heap.size ∧ ∀ k, k < w.heap.size → k ≠ ob → k ≠ hb → w'.heap[k]? = w.heap[k]?)
  (h0 : Below w0.heap.size w0 w) (ho : w0.heap.size ≤ ob) (hh : w0.heap.size ≤ hb) : Kd.R (Kd.int .i64) 3 w' w0.heap.size (fun _ => True) sv ys ∧ Below w0.heap.size w0 w' := by
 obtain ⟨h1, h2, h3, h4, h5, h6, h7⟩ := h
 exact ⟨Kd.R_lower h2 h0.size, h0.trans ⟨h3, h4, h5, h6, fun k hk => h7 k (Nat.lt_of_lt_of_le hk h0.size) (by omega) (by omega)⟩⟩
set_option maxHeartbeats 4000000 in
set_option maxRecDepth 100000 in
theorem ListMatch_calls (ds : List Dd) (A : Option Addr) (c : Nat) (s : ByteArray) (b : Bool) (w : World) (hC : Kd.C kDd w A ds.length ds) (hc : ds.length ≤ c) (hX : GLaid w) (hG : GoodsK [] ds) (hl : ds.length < 100000) (hs : s.size ≤ 100000) (hF : FullT s) (hL0 : Lit0 (TK s)) :
  Calls Tryd.prog 20 #[.slice A ds.length c, .string s, .bool b] w fun en w' => LmQ (mvL (runK [] ds).1 [] (TK s)) w en w' := by
 have HC := Aside0.mk (list_calls ds A c w hC hc hX hG hl)
 have hlen := runK_len ds []
 have h0 : ([] : List Ent).length = 0 := rfl
 obtain ⟨E, hE⟩ : ∃ E, E = (runK [] ds).1 := ⟨_, rfl⟩
 rw [← hE] at hlen HC ⊢
 have HO := Aside0.mk (show matOk E s from ⟨hs, hF, hL0, by omega⟩)
 clear hC hc hX hG hl hlen h0 hE hs hF hL0
 have hkb := fun (s_ : ByteArray) (W_ : World) => print_bytes (P := Tryd.prog) 9 62 5 Tryd.underlying9 Tryd.underlying62 Tryd.underlying5 s_ W_
 go_enter Tryd.func20, Tryd.ntmps20
 go_wp2_with fail
 refine HC.out.mono ?_
 rintro en w1 ⟨hb, vk, rfl, hL, -, hb1, hbb⟩
 have H1 := Aside0.mk (And.intro hL (And.intro hb1 hbb))
 clear hL hb1 hbb HC
 go_upto_region 3 with fail
 obtain ⟨w2, hw2⟩ : ∃ w2, w2 = w1.alloc (.cells #[.slice none 0 0] 40) := ⟨_, rfl⟩
 rw [← hw2]
 have hob : w2.heap[w1.heap.size]? = some (.cells #[.slice none 0 0] 40 (0, 0)) := by rw [hw2]; exact heap_alloc_new w1 _
 have hb12 : Below w1.heap.size w1 w2 := by rw [hw2]; exact below_alloc (Below.refl _ _) _
 have hb2 : Below w.heap.size w w2 := H1.out.2.1.trans (hb12.mono H1.out.2.1.size)
 have H2 := Aside0.mk (And.intro (listAt_below H1.out.1 hb12) (And.intro hb2 (And.intro hob H1.out.2.1.size)))
 clear hw2 hob hb12 hb2
 obtain ⟨ob, hobe⟩ : ∃ ob, ob = w1.heap.size := ⟨_, rfl⟩
 rw [← hobe] at H2
 rw [← hobe]
 clear hobe
 cases b with
 | false =>
  have HM := Aside0.mk (Match_calls 40 (.inr rfl) _ _ hb ob E s w2 H2.out.1 H2.out.2.1.size HO.out H2.out.2.2.1)
  clear hkb
  go_wp2_with fail
  refine HM.out.mono ?_
  rintro en w3 ⟨ys, sv, rfl, hp, h3⟩
  have c0 : w3.cell? ⟨ob, 0, none⟩ = some sv := (cell_of_row w3 ob 0 _ _ _ h3.1).trans rfl
  have hfin := MatQ.fin (zs := []) h3 H2.out.2.1 H2.out.2.2.2 H1.out.2.2
  have H3 := Aside0.mk (And.intro hp hfin)
  obtain ⟨A3, c3, e3⟩ := Kd.R_slice hfin.1
  clear hp h3 HM hfin
  subst e3
  go_wp2_with fail
  go_ret
  exact ⟨_, ys, rfl, H3.out.1, H3.out.2.1, H3.out.2.2⟩
 | true =>
  have hcv : (convert 62 9 (.slice (some ⟨w2.heap.size, 0, none⟩) s.size (grownCap w2 s.size 0 5))).run Tryd.prog (Lib.bytesWorld w2 5 s) = .ok (.string s) (Lib.bytesWorld w2 5 s) := by
   rw [string_of_reads Tryd.underlying62 Tryd.underlying5 Tryd.underlying9 (bytes_reads w2 5 s (by have := HO.out.1; omega)), Road.strOfNums_bytesOf]
  have hbw : Below w2.heap.size w2 (Lib.bytesWorld w2 5 s) := bytes_below (Below.refl _ _) (Nat.le_refl _) 5 s
  have HM := Aside0.mk (MatchBytes_calls 38 (.inl rfl) _ _ hb ob E s _ (Lib.bytesWorld w2 5 s) (listAt_below H2.out.1 hbw) (Nat.le_trans H2.out.2.1.size hbw.size) HO.out ((hbw.block _ (lt_some H2.out.2.2.1)).trans H2.out.2.2.1) hcv)
  have HBW := Aside0.mk hbw
  clear hcv hbw
  go_wp2_with fail
  refine HM.out.mono ?_
  rintro en w3 ⟨ys, sv, rfl, hp, h3⟩
  have c0 : w3.cell? ⟨ob, 0, none⟩ = some sv := (cell_of_row w3 ob 0 _ _ _ h3.1).trans rfl
  have hfin := MatQ.fin (zs := []) h3 (H2.out.2.1.trans (HBW.out.mono H2.out.2.1.size)) H2.out.2.2.2 H1.out.2.2
  have H3 := Aside0.mk (And.intro hp hfin)
  obtain ⟨A3, c3, e3⟩ := Kd.R_slice hfin.1
  clear hp h3 HM hfin
  subst e3
  go_wp2_with fail
  go_ret
  exact ⟨_, ys, rfl, H3.out.1, H3.out.2.1, H3.out.2.2⟩

end Go.Proofs.YtcnbnljlopopkaaDoor.LsE

-- thin
