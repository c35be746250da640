/- WALKS: what was read is told. -/
import Derived.Test.YtjhdnapgdajllaaDoorProg
import Derived.Below
import Derived.Deep.Draws
import Derived.Deep.AppendLies
import Derived.Maps.AppendAt
import Derived.OwnWalk
import Derived.Laws.BytesArg
import Derived.Laws.MakeOwn
import Derived.Laws.OwnMore
import Derived.Deep.OwnRows
import Derived.Tactics
import Derived.Lib.ConvBytes
import Derived.Laws.Slices
import Derived.WalkKit
import Derived.KernelRfl
import Derived.RowKit3
import Derived.Deep.LoopGhost
import Derived.Deep.QuietTactic
import Derived.BigQuiet
import Derived.WideLaws
import Derived.Deep.DeepCutAuto
import Derived.Deep.CutBlock
import Derived.Deep.RegionHeld3
import Derived.Laws.Rows
import Derived.Lib.AppendStr
import Derived.ArgAppend
import Derived.Laws.IdiomCopy
import Derived.OrdersHeld
import Derived.Laws.BitsLemmas
import Derived.RowKit
import Derived.Test.YtjhdnapgdajllaaDoorWWords
import Derived.Test.YtjhdnapgdajllaaDoorWLast
import Derived.Test.YtjhdnapgdajllaaDoorWTab
import Derived.Test.YtjhdnapgdajllaaDoorWFour
import Derived.Test.YtjhdnapgdajllaaDoorWQPut
import Derived.Test.YtjhdnapgdajllaaDoorWApart
import Derived.Test.YtjhdnapgdajllaaDoorWArr
import Derived.Test.YtjhdnapgdajllaaDoorWZeros
import Derived.Test.YtjhdnapgdajllaaDoorWFoot
import Derived.Test.YtjhdnapgdajllaaDoorWKept
import Derived.Test.YtjhdnapgdajllaaDoorWShare
import Derived.Test.YtjhdnapgdajllaaDoorWN
import Derived.Test.YtjhdnapgdajllaaDoorWFootNe
import Derived.Test.YtjhdnapgdajllaaDoorWAt
import Derived.Test.YtjhdnapgdajllaaDoorWEqStruct
import Derived.Test.YtjhdnapgdajllaaDoorWRepsOne
import Derived.Test.YtjhdnapgdajllaaDoorWInv
import Derived.Test.YtjhdnapgdajllaaDoorWInvWords
import Derived.Test.YtjhdnapgdajllaaDoorWGuard
import Derived.Test.YtjhdnapgdajllaaDoorWNEv
import Derived.Test.YtjhdnapgdajllaaDoorWMore
import Derived.Test.YtjhdnapgdajllaaDoorSetDx1
namespace Go.Proofs.YtjhdnapgdajllaaDoor.SetIterG
open Go.RowKit Go.Proofs.YtjhdnapgdajllaaDoorW.PrintWords Go.Proofs.YtjhdnapgdajllaaDoorW.PrintLast Go.Proofs.YtjhdnapgdajllaaDoorW.PrintMore
attribute [local go_sem] max2_int min2_int max_two min_two max_three min_three max_four min_four   -- for this text's walks alone
set_option linter.unusedVariables false
set_option linter.unusedSimpArgs false



open _root_.Go.Proofs.YtjhdnapgdajllaaDoor.SetW _root_.Go.Proofs.YtjhdnapgdajllaaDoor.SetEncW _root_.Go.Proofs.YtjhdnapgdajllaaDoor.SetDecW
theorem wu64m (a : Nat) : IntKind.u64.wrap (a : Int) = ((a % 18446744073709551616 : Nat) : Int) := by
  rw [IntKind.wrap_u64]
  omega
def fitG : TG → Prop
  | .nil => True
  | .node _ b bs l r _ => b < 18446744073709551616 ∧ bs.length = 32 ∧ (∀ z ∈ bs, z < 18446744073709551616) ∧ fitG l ∧ fitG r
/-- A node's numbers, as they are counted: modulo 2^64. -/
def ownW (b : Nat) : List Nat → List Nat
  | [] => []
  | z :: zs => (bitsOf z).map (fun i => (b + i) % 18446744073709551616) ++ ownW (b + 64) zs
def numsG : TG → List Nat
  | .nil => []
  | .node _ b bs l r _ => numsG l ++ (ownW b bs ++ numsG r)
theorem nodeG_low {base NB o b : Nat} {G : List Nat} {w w' : World} {bs : List Nat} {pl pr : Option Addr} {k0 : Int} {l r : TG} (hc : Low base G w w') (hd : NB < base ∧ NB ∉ G) (h : nodeAt w NB o b bs pl pr k0 ∧ atG w NB l ∧ atG w NB r) : nodeAt w' NB o b bs pl pr k0 ∧ atG w' NB l ∧ atG w' NB r :=
  ⟨h.1.keep (fun _ _ => cell_of_heap (hc.keep NB hd.1 hd.2) _), atG_keep l h.2.1 (fun _ _ _ _ => cell_of_heap (hc.keep NB hd.1 hd.2) _), atG_keep r h.2.2 (fun _ _ _ _ => cell_of_heap (hc.keep NB hd.1 hd.2) _)⟩
theorem range_G {w : World} {NB o b : Nat} {bs : List Nat} {pl pr : Option Addr} {h : Int} (n : nodeAt w NB o b bs pl pr h) : w.rangeAt NB (o + 1) (bs.map (fun z : Nat => Value.int .u64 (z : Int))) := by
  intro j v hv
  have hj : j < 32 := by
    have := (List.getElem?_eq_some_iff.1 hv).1
    rwa [List.length_map, n.len] at this
  have hl := n.len
  rw [n.bits j hj, ← hv, List.getElem?_map, List.getD_eq_getElem?_getD, List.getElem?_eq_getElem (show j < bs.length by omega)]
  rfl
set_option maxHeartbeats 16000000 in
set_option maxRecDepth 100000 in
theorem iterG_calls (NB N base : Nat) (G : List Nat) (I : List Nat → World → Prop) (go : List Nat → Nat → Bool) (Bo : Nat)
    (hF : ∀ (L : List Nat) (n : Nat) (w : World), I L w → L.length < N → Calls Tryd.prog 53 #[.int .u64 (n : Int), .pointer (some ⟨Bo, 0, none⟩)] w fun e w' => e = .returned (.bool (go L n)) ∧ I (L ++ [n]) w' ∧ Low base G w w')
    (hgT : 3 < base ∧ 3 ∉ G) (hdg : NB < base ∧ NB ∉ G) : ∀ (t : TG) (L : List Nat) (w : World), atG w NB t → fitG t → I L w → TabAt 3 Lib.deBruijn64tab w → L.length + (numsG t).length ≤ N →
    Calls Tryd.prog 49 #[.pointer (pG NB t), .func (.func 53) #[] #[.pointer (some ⟨Bo, 0, none⟩)]] w fun e w' => e = .returned (.bool (runL go L (numsG t)).2) ∧ I (runL go L (numsG t)).1 w' ∧ Low base G w w' := by
  intro t
  induction t with
  | nil =>
    intro L w ha hf hI hT hN
    show Calls Tryd.prog 49 #[.pointer none, .func (.func 53) #[] #[.pointer (some ⟨Bo, 0, none⟩)]] w fun e w' => e = .returned (.bool true) ∧ I L w' ∧ Low base G w w'
    have HI := Aside0.mk hI
    clear ha hf hI hT hF hgT hN hdg
    go_enter Tryd.func49, Tryd.ntmps49
    go_wp2_with fail
    go_ret
    exact ⟨rfl, HI.out, Low.refl _ _ _⟩
  | node a b bs l r h0 ihl ihr =>
    intro L w ha hf hI hT hN
    show Calls Tryd.prog 49 #[.pointer (some ⟨NB, 36 * a, none⟩), .func (.func 53) #[] #[.pointer (some ⟨Bo, 0, none⟩)]] w _
    obtain ⟨o, ho⟩ : ∃ o, o = 36 * a := ⟨_, rfl⟩
    have ha0 := ha
    obtain ⟨han, hal, har⟩ := ha0
    rw [← ho] at han ⊢
    obtain ⟨RB, hRB⟩ : ∃ x, x = runL go L (numsG (TG.node a b bs l r h0)) := ⟨_, rfl⟩
    rw [← hRB]
    have kl : w.cell? ⟨NB, o + 33, none⟩ = some (.pointer (pG NB l)) := han.l
    have HH := Aside0.mk (And.intro (And.intro han (And.intro hal har)) (And.intro hf (And.intro hT hdg)))
    have hN' : L.length + ((numsG l).length + ((ownW b bs).length + (numsG r).length)) ≤ N := by rw [numsG, List.length_append, List.length_append] at hN; exact hN
    have HR := Aside0.mk (And.intro hRB hgT)
    have HN := Aside0.mk hN'
    have HFF := Aside0.mk hF
    have HI := Aside0.mk hI
    have HO := Aside0.mk ho
    clear ha han hal har ho hf hI hT hdg hRB hgT hF hN hN'
    go_enter Tryd.func49, Tryd.ntmps49
    go_wp2_with fail
    refine (ihl L w HH.out.1.2.1 HH.out.2.1.2.2.2.1 HI.out HH.out.2.2.1 (by have := HN.out; omega)).mono ?_
    rintro e w1 ⟨rfl, i1, l1⟩
    obtain ⟨q, hq⟩ : ∃ q, q = (runL go L (numsG l)).2 := ⟨_, rfl⟩
    obtain ⟨L1, hL1⟩ : ∃ q, q = (runL go L (numsG l)).1 := ⟨_, rfl⟩
    rw [← hL1] at i1
    rw [← hq]
    have H1 := Aside0.mk (And.intro i1 (And.intro l1 (And.intro hq hL1)))
    clear i1 l1 hq hL1 kl ihl HI
    cases q with
    | false =>
      go_wp2_with fail
      go_ret
      obtain ⟨i1, l1, hq, hL1⟩ := H1.out
      have e : RB = runL go L (numsG l) := by rw [HR.out.1, numsG, runL_append, if_neg (by rw [← hq]; simp)]
      rw [e, ← hq, ← hL1]
      exact ⟨rfl, i1, l1⟩
    | true =>
      have e1 : RB = runL go L1 (ownW (b + 64 * 0) (bs.drop 0) ++ (numsG r)) := by
        rw [HR.out.1, numsG, runL_append, if_pos H1.out.2.2.1.symm, ← H1.out.2.2.2]
        rfl
      have a1 : nodeAt w1 NB o b bs (pG NB l) (pG NB r) h0 ∧ atG w1 NB l ∧ atG w1 NB r := nodeG_low H1.out.2.1 HH.out.2.2.2 HH.out.1
      have hN1 : L1.length + (ownW (b + 64 * 0) (bs.drop 0) ++ (numsG r)).length ≤ N := by
        rw [H1.out.2.2.2, runL_full go (numsG l) L H1.out.2.2.1.symm, List.length_append, List.length_append]
        have := HN.out
        show L.length + (numsG l).length + ((ownW b bs).length + (numsG r).length) ≤ N
        omega
      have HE1 := Aside0.mk (And.intro e1 (And.intro a1 hN1))
      obtain ⟨LL, hLL⟩ : ∃ LL, LL = bs.map (fun z : Nat => Value.int .u64 (z : Int)) := ⟨_, rfl⟩
      have HRG := Aside0.mk (show w1.rangeAt NB (o + 1) LL by rw [hLL]; exact range_G a1.1)
      have HLL := Aside0.mk (show (Tryd.prog.info? 86).map (·.size) = some LL.length by rw [hLL, List.length_map, a1.1.len]; kernel_rfl)
      have HL2 := Aside0.mk hLL
      clear e1 a1 hLL hN1
      go_wp2_with (first | ((with_reducible refine gate_dst (N := 24) rfl ?_); refine wpList_load_mid rfl 86 (.tmp 23) rfl NB (o + 1) rfl LL _ HRG.out Tryd.underlying86 (by rfl) HLL.out ?_))
      go_loopw [25] (fun v25 wx => ∃ (k : Nat) (L2 : List Nat), v25 = .int .i64 (k : Int) ∧ Aside0 (k ≤ 32) ∧ Aside0 (RB = runL go L2 (ownW (b + 64 * k) (bs.drop k) ++ (numsG r)) ∧ L2.length + (ownW (b + 64 * k) (bs.drop k) ++ (numsG r)).length ≤ N) ∧ Aside0 (I L2 wx ∧ Low base G w1 wx)) (fun v25 _ => Road.leftOf 32 v25)
      case atStart => exact ⟨0, L1, rfl, ⟨by omega⟩, ⟨HE1.out.1, HE1.out.2.2⟩, ⟨H1.out.1, Low.refl _ _ _⟩⟩
      case round =>
        obtain ⟨k, L2, rfl, HK, HRB, HIL⟩ := hrel
        have aw : nodeAt wr NB o b bs (pG NB l) (pG NB r) h0 ∧ atG wr NB l ∧ atG wr NB r := nodeG_low HIL.out.2 HH.out.2.2.2 HE1.out.2.1
        rcases Nat.lt_or_ge k 32 with hk | hk
        · have k1' := eq_true (show (k : Int) < 32 by omega)
          have k2' := eq_true hk
          obtain ⟨zk, hzk⟩ : ∃ zk, zk = bs.getD k 0 := ⟨_, rfl⟩
          have hkl : k < bs.length := by rw [aw.1.len]; exact hk
          have hzk2 : zk = bs[k] := by rw [hzk, List.getD_eq_getElem?_getD, List.getElem?_eq_getElem hkl]; rfl
          have ix : LL[k]? = some (.int .u64 (zk : Int)) := by
            rw [HL2.out, List.getElem?_map, hzk2, List.getElem?_eq_getElem hkl]
            rfl
          have hix := run_index_bits LL k zk wr hk ix
          have cb := aw.1.base
          have u1 : IntKind.u64.wrap (k : Int) = (k : Int) := Road.wu64 _ _ rfl (by omega) (by omega)
          obtain ⟨m, hm⟩ : ∃ m, m = 64 * k := ⟨_, rfl⟩
          have u2 : IntKind.u64.wrap ((k : Int) * 64) = (m : Int) := Road.wu64 _ _ (by omega) (by omega) (by omega)
          obtain ⟨B, hB⟩ : ∃ B, B = (b + m) % 18446744073709551616 := ⟨_, rfl⟩
          have u3 : IntKind.u64.wrap ((b : Int) + (m : Int)) = (B : Int) := by rw [hB, ← wu64m, Int.natCast_add]
          have hdrop : ownW (b + 64 * k) (bs.drop k) = (bitsOf zk).map (fun i => (B + i) % 18446744073709551616) ++ ownW (b + 64 * (k + 1)) (bs.drop (k + 1)) := by
            rw [List.drop_eq_getElem_cons hkl, ownW, hB, hm, hzk2, show b + 64 * (k + 1) = b + 64 * k + 64 by omega]
            simp only [Nat.mod_add_mod]
          have hB64 : B < 18446744073709551616 := by rw [hB]; exact Nat.mod_lt _ (by decide)
          have hz64 : zk < 18446744073709551616 := by rw [hzk2]; exact HH.out.2.1.2.2.1 _ (List.getElem_mem hkl)
          have HZ := Aside0.mk (And.intro hk (And.intro hdrop (And.intro hB64 (And.intro hz64 (And.intro hB hm)))))
          clear hk hzk hzk2 hkl ix hm hB hdrop hB64 hz64 aw
          go_upto_region 10 with fail
          go_loopw [7] (fun v7 wx => ∃ (y : Nat) (L3 : List Nat), v7 = .int .u64 (y : Int) ∧ Aside0 (y < 18446744073709551616) ∧ Aside0 (RB = runL go L3 ((bitsOf y).map (fun i => (B + i) % 18446744073709551616) ++ (ownW (b + 64 * (k + 1)) (bs.drop (k + 1)) ++ (numsG r))) ∧ L3.length + ((bitsOf y).map (fun i => (B + i) % 18446744073709551616) ++ (ownW (b + 64 * (k + 1)) (bs.drop (k + 1)) ++ (numsG r))).length ≤ N) ∧ Aside0 (I L3 wx ∧ Low base G w1 wx)) (fun v7 _ => Road_natOf v7)
          case atStart => exact ⟨zk, L2, rfl, ⟨HZ.out.2.2.2.1⟩, ⟨by rw [HRB.out.1, HZ.out.2.1, List.append_assoc], by have := HRB.out.2; rw [HZ.out.2.1, List.append_assoc] at this; exact this⟩, HIL⟩
          case round =>
            obtain ⟨y, L3, rfl, HY, HRB3, HIL3⟩ := hrel
            by_cases hy0 : y = 0
            · have z1 : ((y : Int) != 0) = false := bne_eq_false_iff_eq.2 (by omega)
              have z2 : decide (y = 0) = true := decide_eq_true hy0
              have z3 := eq_true hy0
              have HY0 := Aside0.mk hy0
              clear hy0
              go_wp2_with fail
              go_roundw
              case rel =>
                refine ⟨k + 1, L3, ?_, ⟨HZ.out.1⟩, ⟨?_, ?_⟩, HIL3⟩
                · rw [Road.w64 ((k : Int) + 1) ((k + 1 : Nat) : Int) (by omega) (by omega) (by have := HZ.out.1; omega)]
                · rw [HRB3.out.1, HY0.out, bitsOf_zero, List.map_nil, List.nil_append]
                · have := HRB3.out.2
                  rw [HY0.out, bitsOf_zero, List.map_nil, List.nil_append] at this
                  exact this
              case measure =>
                rw [Road.w64 ((k : Int) + 1) ((k + 1 : Nat) : Int) (by omega) (by omega) (by have := HZ.out.1; omega)]
                exact Road.leftOf_lt HZ.out.1
            · have z1 : ((y : Int) != 0) = true := bne_iff_ne.2 (fun e => hy0 (Int.ofNat.inj e))
              have z2 : decide (y = 0) = false := decide_eq_false hy0
              have z3 := eq_false hy0
              obtain ⟨c, hc⟩ : ∃ c, c = Lib.ctz 64 y := ⟨_, rfl⟩
              have hc64 : c < 64 := by rw [hc]; exact (Lib.lowest_bit 64 y hy0 HY.out).2
              have u4 : IntKind.u64.wrap (c : Int) = (c : Int) := Road.wu64 _ _ rfl (by omega) (by omega)
              obtain ⟨n, hn⟩ : ∃ n, n = (B + c) % 18446744073709551616 := ⟨_, rfl⟩
              have u5 : IntKind.u64.wrap ((B : Int) + (c : Int)) = (n : Int) := by rw [hn, ← wu64m, Int.natCast_add]
              have hys : (bitsOf y).map (fun i => (B + i) % 18446744073709551616) = n :: (bitsOf (y &&& (y - 1))).map (fun i => (B + i) % 18446744073709551616) := by rw [bitsOf_step y hy0 HY.out, hn, hc]; rfl
              obtain ⟨y1, hy1⟩ : ∃ x, x = y - 1 := ⟨_, rfl⟩
              have u6 : IntKind.u64.wrap ((y : Int) - 1) = (y1 : Int) := Road.wu64 _ _ (by omega) (by omega) (by have := HY.out; omega)
              obtain ⟨y2, hy2⟩ : ∃ x, x = y &&& y1 := ⟨_, rfl⟩
              have u7 : bits .and .u64 (y : Int) (y1 : Int) = (y2 : Int) := by rw [hy2]; exact and_u64 y y1 HY.out (by have := HY.out; omega)
              have hy2l : y2 < y := by
                have : y2 ≤ y1 := by rw [hy2]; exact Nat.and_le_right
                omega
              have htz := tz_calls y HY.out hy0 wr (tab_low (HIL3.out.2) HR.out.2.1 HR.out.2.2 (tab_low H1.out.2.1 HR.out.2.1 HR.out.2.2 HH.out.2.2.1))
              rw [← hc] at htz
              rw [hy1] at hy2
              have HC := Aside0.mk (And.intro trivial (And.intro hys (And.intro hy2 hy2l)))
              clear hy0 hc hc64 hn hys hy1 hy2 hy2l
              go_wp2_with fail
              refine htz.mono ?_
              clear htz
              rintro e w5 ⟨rfl, rfl⟩
              go_wp2_with fail
              refine (HFF.out L3 n w5 HIL3.out.1 (by have := HRB3.out.2; rw [HC.out.2.1, List.cons_append, List.length_cons] at this; omega)).mono ?_
              rintro e w6 ⟨rfl, i6, l6⟩
              obtain ⟨q2, hq2⟩ : ∃ q2, q2 = go L3 n := ⟨_, rfl⟩
              rw [← hq2]
              have H6 := Aside0.mk (And.intro i6 (And.intro l6 hq2))
              clear i6 l6 hq2
              cases q2 with
              | false =>
                go_wp2_with fail
                go_ret
                have e : RB = (L3 ++ [n], false) := by rw [HRB3.out.1, HC.out.2.1, List.cons_append, runL, if_neg (by rw [← H6.out.2.2]; simp)]
                rw [e]
                exact ⟨rfl, H6.out.1, H1.out.2.1.trans (HIL3.out.2.trans H6.out.2.1)⟩
              | true =>
                go_wp2_with fail
                go_roundw
                case rel =>
                  refine ⟨y2, L3 ++ [n], rfl, ⟨by have := HC.out.2.2.2; have := HY.out; omega⟩, ⟨?_, ?_⟩, ⟨H6.out.1, HIL3.out.2.trans H6.out.2.1⟩⟩
                  · rw [HRB3.out.1, HC.out.2.1, List.cons_append, runL, if_pos H6.out.2.2.symm, HC.out.2.2.1]
                  · have := HRB3.out.2
                    rw [HC.out.2.1, List.cons_append, List.length_cons, ← HC.out.2.2.1] at this
                    rw [List.length_append, List.length_singleton]
                    omega
                case measure =>
                  show (y2 : Int).toNat < (y : Int).toNat
                  have := HC.out.2.2.2
                  omega
        · obtain rfl : k = 32 := by have := HK.out; omega
          have kr : wr.cell? ⟨NB, o + 34, none⟩ = some (.pointer (pG NB r)) := aw.1.r
          have hrb4 : RB = runL go L2 (numsG r) := by
            rw [HRB.out.1, List.drop_of_length_le (Nat.le_of_eq aw.1.len)]
            rfl
          have hN4 : L2.length + (numsG r).length ≤ N := by
            have := HRB.out.2
            rw [List.drop_of_length_le (Nat.le_of_eq aw.1.len)] at this
            exact this
          have HN4 := Aside0.mk hN4
          clear hN4
          have HRB4 := Aside0.mk hrb4
          clear hrb4
          have HAR := Aside0.mk aw.2.2
          clear hk aw
          go_wp2_with fail
          refine (ihr L2 wr HAR.out HH.out.2.1.2.2.2.2 HIL.out.1 (tab_low HIL.out.2 HR.out.2.1 HR.out.2.2 (tab_low H1.out.2.1 HR.out.2.1 HR.out.2.2 HH.out.2.2.1)) HN4.out).mono ?_
          rintro e w6 ⟨rfl, i6, l6⟩
          rw [← HRB4.out] at i6 ⊢
          have H6 := Aside0.mk (And.intro i6 l6)
          clear i6 l6
          obtain ⟨q2, hq2⟩ : ∃ q2, q2 = RB.2 := ⟨_, rfl⟩
          rw [← hq2]
          have HQ2 := Aside0.mk hq2
          clear hq2
          cases q2 with
          | false =>
            go_wp2_with fail
            go_ret
            exact ⟨by rw [← HQ2.out]; rfl, H6.out.1, H1.out.2.1.trans (HIL.out.2.trans H6.out.2)⟩
          | true =>
            go_wp2_with fail
            go_ret
            exact ⟨by rw [← HQ2.out]; rfl, H6.out.1, H1.out.2.1.trans (HIL.out.2.trans H6.out.2)⟩
theorem rangeG_calls (NB N base : Nat) (G : List Nat) (I : List Nat → World → Prop) (go : List Nat → Nat → Bool) (Bo : Nat)
    (hF : ∀ (L : List Nat) (n : Nat) (w : World), I L w → L.length < N → Calls Tryd.prog 53 #[.int .u64 (n : Int), .pointer (some ⟨Bo, 0, none⟩)] w fun e w' => e = .returned (.bool (go L n)) ∧ I (L ++ [n]) w' ∧ Low base G w w')
    (hgT : 3 < base ∧ 3 ∉ G) (hdg : NB < base ∧ NB ∉ G) (SS : Nat) (t : TG) (sz nn : Int) (w : World) (hS : w.heap[SS]? = some (.cells (ssC (.pointer (pG NB t)) sz nn false) 84 (0, 0))) (hA : atG w NB t) (hfit : fitG t) (hI : I [] w) (hT : TabAt 3 Lib.deBruijn64tab w) (hN : (numsG t).length ≤ N) :
    Calls Tryd.prog 31 #[.pointer (some ⟨SS, 0, none⟩), .func (.func 53) #[] #[.pointer (some ⟨Bo, 0, none⟩)]] w fun e w' => e = .returned (.tuple #[]) ∧ I (runL go [] (numsG t)).1 w' ∧ Low base G w w' := by
  have c0 : w.cell? ⟨SS, 0, none⟩ = some (.pointer (pG NB t)) := cell_of_row w SS 0 _ _ _ hS
  have HI := Aside0.mk (iterG_calls NB N base G I go Bo hF hgT hdg t [] w hA hfit hI hT (by simpa using hN))
  clear hF hgT hS hI hT hdg hN hA hfit
  go_enter Tryd.func31, Tryd.ntmps31
  go_wp2_with fail
  refine HI.out.mono ?_
  rintro e w1 ⟨rfl, i1, l1⟩
  have H1 := Aside0.mk (And.intro i1 l1)
  clear i1 l1
  go_wp2_with fail
  go_end0
  exact ⟨rfl, H1.out.1, H1.out.2⟩
set_option maxHeartbeats 8000000 in
set_option maxRecDepth 100000 in
theorem allG_walk (SS NB : Nat) (t : TG) (sz nn : Int) (w : World) (hS : w.heap[SS]? = some (.cells (ssC (.pointer (pG NB t)) sz nn false) 84 (0, 0))) (hA : atG w NB t) (hfit : fitG t) (hNB : NB < w.heap.size) (hl : (numsG t).length ≤ 100000000) (hT : TabAt 3 Lib.deBruijn64tab w) :
    Calls Tryd.prog 37 #[.pointer (some ⟨SS, 0, none⟩)] w fun e w' => ∃ v, e = .returned v ∧ Kd.R (Kd.int .u64) 32 w' w.heap.size (fun _ => True) v ((numsG t).map (fun n : Nat => (n : Int))) ∧ Below w.heap.size w w' := by
  obtain ⟨W2, hW2⟩ : ∃ W2, W2 = w.alloc (.cells #[.slice none 0 0] 25 (0, 0)) := ⟨_, rfl⟩
  have b2 : Below w.heap.size w W2 := by rw [hW2]; exact below_alloc (Below.refl _ _) _
  have z2 : W2.heap.size = w.heap.size + 1 := by rw [hW2]; simp
  have qo : W2.heap[w.heap.size]? = some (.cells #[.slice none 0 0] 25 (0, 0)) := by rw [hW2]; exact heap_alloc_new w _
  have hS2 := (b2.block SS (Array.getElem?_eq_some_iff.1 hS).1).trans hS
  have hA2 : atG W2 NB t := atG_keep t hA (fun _ _ _ _ => cell_of_heap (b2.block NB hNB) _)
  have hlt := tab_lt hT
  have hI : allCI W2.heap.size w.heap.size [] W2 := ⟨Nat.le_refl _, _, qo, Kd.R_nil _ _ _ _ _⟩
  have hR := rangeG_calls NB 100000000 W2.heap.size [w.heap.size] (allCI W2.heap.size w.heap.size) (fun _ _ => true) w.heap.size
    (fun L n w hI hL => allC_calls _ _ L n w hI (by omega) (by omega)) ⟨by omega, by simp; omega⟩ ⟨by omega, by simp; omega⟩ SS t sz nn W2 hS2 hA2 hfit hI (tab_below b2 hT) hl
  rw [runL_all (numsG t) [], List.nil_append] at hR
  have HR := Aside0.mk (And.intro hR b2)
  clear b2 z2 qo hS hT hl hS2 hlt hI hR hA hA2 hfit hNB
  go_enter Tryd.func37, Tryd.ntmps37
  go_wp2_with fail
  rw [← hW2]
  clear hW2
  refine HR.out.1.mono ?_
  rintro e w4 ⟨rfl, i4, l4⟩
  obtain ⟨i1, v, i3, i4⟩ := i4
  have kv : w4.cell? ⟨w.heap.size, 0, none⟩ = some v := cell_of_row w4 w.heap.size 0 _ _ _ i3
  have H4 := Aside0.mk (And.intro l4 i4)
  clear i1 i3 i4 l4
  go_wp2_with fail
  go_ret
  exact ⟨_, rfl, Kd.R_mono (Kd.R_lower H4.out.2 HR.out.2.size) (fun _ _ => trivial), HR.out.2.trans (H4.out.1.below HR.out.2.size (fun x h => by rw [List.mem_singleton.1 h]; omega))⟩

end Go.Proofs.YtjhdnapgdajllaaDoor.SetIterG
