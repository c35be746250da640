/- WALKS: a header's key, its line, its value. -/
import Derived.Test.YtmfblbjklmgncaaProg
import Derived.Below
import Derived.Deep.Draws
import Derived.Deep.AppendLies
import Derived.Maps.AppendAt
import Derived.OwnWalk
import Derived.Laws.BytesArg
import Derived.Laws.MakeOwn
import Derived.Laws.OwnMore
import Derived.Deep.OwnRows
import Derived.Tactics
import Derived.Lib.ConvBytes
import Derived.Laws.Slices
import Derived.WalkKit
import Derived.KernelRfl
import Derived.RowKit3
import Derived.Deep.LoopGhost
import Derived.Deep.QuietTactic
import Derived.BigQuiet
import Derived.WideLaws
import Derived.Deep.DeepCutAuto
import Derived.Deep.CutBlock
import Derived.Deep.RegionHeld3
import Derived.Laws.Rows
import Derived.Lib.AppendStr
import Derived.ArgAppend
import Derived.Laws.IdiomCopy
import Derived.OrdersHeld
import Derived.Laws.BitsLemmas
import Derived.RowKit
import Derived.Test.YtmfblbjklmgncaaRoad
import Derived.Test.YtmfblbjklmgncaaWWords
import Derived.Test.YtmfblbjklmgncaaWLast
import Derived.Test.YtmfblbjklmgncaaWTab
import Derived.Test.YtmfblbjklmgncaaWFour
import Derived.Test.YtmfblbjklmgncaaWQPut
import Derived.Test.YtmfblbjklmgncaaWApart
import Derived.Test.YtmfblbjklmgncaaWArr
import Derived.Test.YtmfblbjklmgncaaWZeros
import Derived.Test.YtmfblbjklmgncaaWFoot
import Derived.Test.YtmfblbjklmgncaaWKept
import Derived.Test.YtmfblbjklmgncaaWShare
import Derived.Test.YtmfblbjklmgncaaWN
import Derived.Test.YtmfblbjklmgncaaWFootNe
import Derived.Test.YtmfblbjklmgncaaWAt
import Derived.Test.YtmfblbjklmgncaaWEqStruct
import Derived.Test.YtmfblbjklmgncaaWRepsOne
import Derived.Test.YtmfblbjklmgncaaWInv
import Derived.Test.YtmfblbjklmgncaaWInvWords
import Derived.Test.YtmfblbjklmgncaaWGuard
import Derived.Test.YtmfblbjklmgncaaWNEv
import Derived.Test.YtmfblbjklmgncaaWMore
import Derived.Test.YtmfblbjklmgncaaRunes
import Derived.RegionTactic
import Derived.Lib.SlBytesConst
import Derived.StillTailTactics
import Derived.Lib.SliceRun
import Derived.WalkSpells
namespace Go.Proofs.Ytmfblbjklmgncaa.HeadW
open Go.RowKit Go.Proofs.YtmfblbjklmgncaaW.PrintWords Go.Proofs.YtmfblbjklmgncaaW.PrintLast Go.Proofs.YtmfblbjklmgncaaW.PrintMore
attribute [local go_sem] max2_int min2_int max_two min_two max_three min_three max_four min_four   -- for this text's walks alone
set_option linter.unusedVariables false
set_option linter.unusedSimpArgs false



open _root_.Go.Proofs.Ytmfblbjklmgncaa.Road
theorem bytes_C (w : World) (s : ByteArray) (hs : s.size ≤ 2147483647) : Kd.C (Kd.int .u8) (Lib.bytesWorld w 5 s) (some ⟨w.heap.size, 0, none⟩) (bytesOf s).length (bytesOf s) := by
  have := bytes_reads w 5 s (by omega)
  rw [← bytesOf_length] at this
  exact Kd.C_of_reads (enc := Value.int .u8) (d := (0 : Int)) (h1 := fun _ => rfl) this
theorem stb.walk (s : ByteArray) (w : World) : Calls Try.prog 30 #[.string s] w fun e w' => e = .returned (.slice (some ⟨w.heap.size, 0, none⟩) s.size (grownCap w s.size 0 5)) ∧ w' = Lib.bytesWorld w 5 s := by
  have hkb := print_bytes (P := Try.prog) 9 27 5 Try.underlying9 Try.underlying27 Try.underlying5 s w
  go_enter Try.func30, Try.ntmps30
  go_wp2
  go_ret
  exact ⟨rfl, rfl⟩
/-- The text stands at a place. -/
def hitAt (b sep : List Int) (k : Nat) : Bool := (strOfNums ((b.drop k).take sep.length)).toList == (strOfNums sep).toList
theorem cutB_C {w : World} {ad : Addr} {l : List Int} (hC : Kd.C (Kd.int .u8) w (some ad) l.length l) (k m : Nat) (hkm : k + m ≤ l.length) : Kd.C (Kd.int .u8) w (some (ad.add k)) ((l.drop k).take m).length ((l.drop k).take m) := by
  have hrd := Kd.reads_of_C (enc := Value.int .u8) (d := (0 : Int)) (h1 := fun _ => rfl) hC
  have hlen : ((l.drop k).take m).length = m := by simp; omega
  have hsm : l.length ≤ maxLen := hrd.2.1
  refine Kd.C_of_reads (enc := Value.int .u8) (d := (0 : Int)) (h1 := fun _ => rfl) ⟨rfl, by rw [hlen]; simp only [maxLen] at hsm ⊢; omega, fun hn => ⟨_, rfl, fun j hj => ?_⟩⟩
  rw [hlen] at hj
  obtain ⟨ad', e, hc⟩ := hrd.2.2 (by omega)
  obtain rfl := Option.some.inj e
  have ea : (ad.add k).add j = ad.add (k + j) := by unfold Addr.add; split <;> split <;> simp_all [Nat.add_assoc]
  rw [ea, hc (k + j) (by omega)]
  simp [List.getD_eq_getElem?_getD, List.getElem?_take, hj, List.getElem?_drop]
set_option maxHeartbeats 8000000 in
set_option maxRecDepth 100000 in
/-- The first place, or none (i: none at all ahead of it; there, or no room). -/
theorem zz_walk (ad : Addr) (c : Nat) (b sep : List Int) (A1 : Option Addr) (c1 : Nat) (w : World) (hC : Kd.C (Kd.int .u8) w (some ad) b.length b) (hc : b.length ≤ c) (hl : b.length ≤ 2147483647) (hC1 : Kd.C (Kd.int .u8) w A1 sep.length sep) (hs0 : 0 < sep.length) (hs : sep.length ≤ 2147483647)
    (i : Nat) (r : Int) (hno : ∀ j, j < i → j + sep.length ≤ b.length ∧ hitAt b sep j = false) (hi : (i + sep.length ≤ b.length ∧ hitAt b sep i = true ∧ r = (i : Int)) ∨ (b.length < i + sep.length ∧ r = -1)) :
    Calls Try.prog 29 #[.slice (some ad) b.length c, .slice A1 sep.length c1] w fun e w' => e = .returned (.int .i64 r) ∧ Below w.heap.size w w' := by
  have HC := Aside0.mk hC
  have HP := Aside0.mk hc
  have HL := Aside0.mk hl
  have HC1 := Aside0.mk hC1
  have HS0 := Aside0.mk hs0
  have HSL := Aside0.mk hs
  have HNO := Aside0.mk hno
  have HI := Aside0.mk hi
  clear hC hc hl hC1 hs0 hs hno hi
  go_enter Try.func29, Try.ntmps29
  go_wp2
  go_loopw [5] (fun v5 w' => ∃ k : Nat, v5 = .int .i64 (k : Int) ∧ Aside0 (k ≤ i) ∧ Aside0 (Below w.heap.size w w')) (fun v5 _ => Road.leftOf (i + 1) v5)
  case atStart => exact ⟨0, rfl, ⟨Nat.zero_le _⟩, ⟨Below.refl _ _⟩⟩
  case round =>
    obtain ⟨k, rfl, HK, HB⟩ := hrel
    have hik : k < i ∨ k = i := by have := HK.out; omega
    obtain ⟨s, hsk⟩ : ∃ s, s = k + sep.length := ⟨_, rfl⟩
    have HSK := Aside0.mk hsk
    have hkb : k ≤ b.length ∧ k ≤ 2147483647 := by
      have := HL.out
      rcases hik with h | h
      · have := (HNO.out k h).1; omega
      · rcases HI.out with h2 | h2
        · omega
        · rcases Nat.eq_zero_or_pos i with h0 | h0
          · omega
          · have := (HNO.out (i - 1) (by omega)).1; have := HS0.out; omega
    have HSW := Aside0.mk (show wrap64 ((k : Int) + (sep.length : Int)) = (s : Int) from w64 _ _ (by omega) (by have := HSL.out; omega) (by have := HSL.out; omega))
    have HSW2 := Aside0.mk (show IntKind.i64.wrap ((k : Int) + (sep.length : Int)) = (s : Int) from wi64 _ _ (by omega) (by have := HSL.out; omega) (by have := HSL.out; omega))
    have HKW := Aside0.mk (wrap_nat k (by omega))
    by_cases hroom : s ≤ b.length
    · have hks : k ≠ c := by have := HP.out; have := HS0.out; omega
      have q1 : decide ((s : Int) ≤ (b.length : Int)) = true := decide_eq_true (by omega)
      have q2 : decide (s ≤ b.length) = true := decide_eq_true hroom
      have q3 := eq_true (show k ≤ s by omega)
      have q4 := eq_true (show (k : Int) ≤ (s : Int) by omega)
      have q5 := eq_true (show (0 : Int) ≤ (k : Int) by omega)
      have q6 := eq_true (show s ≤ c by have := HP.out; omega)
      have q7 := eq_true (show (s : Int) ≤ (c : Int) by have := HP.out; omega)
      have q8 := eq_false (show ¬ c = k by omega)
      have q9 := eq_true (show (0 : Int) ≤ (s : Int) by omega)
      have hlen : ((b.drop k).take sep.length).length = s - k := by simp; omega
      have hcut := cutB_C (Kd.C_below HC.out HB.out) k sep.length (by omega)
      rw [hlen] at hcut
      have hcv := fun n_ => Kd.C_string (P := Try.prog) (c := c - k) Try.underlying27 Try.underlying5 Try.underlying9 (Kd.C_drewN hcut n_)
      have hcv1 := fun n_ => Kd.C_string (P := Try.prog) (c := c1) Try.underlying27 Try.underlying5 Try.underlying9 (Kd.C_drewN (Kd.C_below HC1.out HB.out) n_)
      have hhit : hitAt b sep k = decide (k = i) := by
        rcases hik with h | h
        · rw [(HNO.out k h).2, decide_eq_false (by omega)]
        · rcases HI.out with h2 | h2
          · rw [h, h2.2.1, decide_eq_true rfl]
          · omega
      unfold hitAt at hhit
      have HR := Aside0.mk (show k = i → r = (i : Int) from fun h => by
        rcases HI.out with h2 | h2
        · exact h2.2.2
        · omega)
      clear hlen hcut hkb hsk hroom hks
      by_cases hki : k = i
      · rw [decide_eq_true hki] at hhit
        have HKI := Aside0.mk hki
        clear hki hik
        have hsw := HSW.out
        have hsw2 := HSW2.out
        go_wp2
        go_quiet (fail)
        go_wp2
        go_ret
        exact ⟨by rw [HR.out HKI.out, ← HKI.out]; rfl, pw_below_drewN HB.out _⟩
      · rw [decide_eq_false hki] at hhit
        have HKI := Aside0.mk hki
        clear hki hik
        have hsw := HSW.out
        have hsw2 := HSW2.out
        go_wp2
        go_quiet (fail)
        go_wp2
        go_roundw
        case rel => exact ⟨k + 1, by rw [HKW.out], ⟨by have := HK.out; have := HKI.out; omega⟩, ⟨pw_below_drewN HB.out _⟩⟩
        case measure => rw [HKW.out]; exact Road.leftOf_lt (by have := HK.out; omega)
    · have q1 : decide ((s : Int) ≤ (b.length : Int)) = false := decide_eq_false (by omega)
      have q2 : decide (s ≤ b.length) = false := decide_eq_false hroom
      have HR := Aside0.mk (show r = -1 by
        rcases hik with h | h
        · have := (HNO.out k h).1; omega
        · rcases HI.out with h2 | h2
          · omega
          · exact h2.2)
      clear hkb hsk hroom hik
      have hsw := HSW.out
      go_wp2
      go_ret
      exact ⟨by rw [HR.out]; rfl, HB.out⟩
/-- The search for a key, its bytes laid by the call. -/
theorem zz_key (ad : Addr) (c : Nat) (l : List Int) (key : ByteArray) (W : World) (hC : Kd.C (Kd.int .u8) W (some ad) l.length l) (hc : l.length ≤ c) (hl : l.length ≤ 2147483647) (hs0 : 0 < key.size) (hs : key.size ≤ 2147483647)
    (i : Nat) (r : Int) (hno : ∀ j, j < i → j + key.size ≤ l.length ∧ hitAt l (bytesOf key) j = false) (hi : (i + key.size ≤ l.length ∧ hitAt l (bytesOf key) i = true ∧ r = (i : Int)) ∨ (l.length < i + key.size ∧ r = -1)) :
    Calls Try.prog 29 #[.slice (some ad) l.length c, .slice (some ⟨W.heap.size, 0, none⟩) key.size (grownCap W key.size 0 5)] (Lib.bytesWorld W 5 key) fun e w' => e = .returned (.int .i64 r) ∧ Below (Lib.bytesWorld W 5 key).heap.size (Lib.bytesWorld W 5 key) w' := by
  have hb := bytes_C W key hs
  have := zz_walk ad c l (bytesOf key) (some ⟨W.heap.size, 0, none⟩) (grownCap W key.size 0 5) (Lib.bytesWorld W 5 key) (Kd.C_below hC (bytes_below (Below.refl _ _) (Nat.le_refl _) _ _)) hc hl hb (by rw [bytesOf_length]; exact hs0) (by rw [bytesOf_length]; exact hs) i r (fun j hj => by rw [bytesOf_length]; exact hno j hj) (by rw [bytesOf_length]; exact hi)
  rwa [bytesOf_length] at this
set_option maxHeartbeats 8000000 in
set_option maxRecDepth 100000 in
theorem gi_none (key : ByteArray) (hk0 : 0 < key.size) (hks : key.size ≤ 2147483647) (ad : Addr) (c : Nat) (l : List Int) (w : World) (hC : Kd.C (Kd.int .u8) w (some ad) l.length l) (hcp : l.length ≤ c) (hl : l.length ≤ 2147483647) (hne : 0 < l.length) (hno : ∀ j, j + key.size ≤ l.length → hitAt l (bytesOf key) j = false) :
    Calls Try.prog 28 #[.string key, .slice (some ad) l.length c] w fun e w' => e = .returned (.int .i64 (-1)) ∧ Below w.heap.size w w' := by
  have d0 : ((l.length : Int) == 0) = false := beq_eq_false_iff_ne.2 (by omega)
  have k4 := eq_true (show l.length ≤ c from hcp)
  have k5 := eq_false (show ¬ c = 0 by omega)
  have HZ := Aside0.mk (zz_key ad c l key w hC hcp hl hk0 hks (l.length + 1 - key.size) (-1) (fun j hj => ⟨by omega, hno j (by omega)⟩) (.inr ⟨by omega, rfl⟩))
  clear hC hcp hl hne hno hks hk0
  go_enter Try.func28, Try.ntmps28
  go_wp2_with fail
  refine (stb.walk key w).mono ?_
  rintro e w1 ⟨rfl, rfl⟩
  go_wp2_with fail
  refine wp_loop_rounds 1 ?_
  rw [rounds_succ]
  go_wp2_with fail
  refine HZ.out.mono ?_
  rintro e w2 ⟨rfl, hb2⟩
  have HB := Aside0.mk (below_step (bytes_below (Below.refl w.heap.size w) (Nat.le_refl _) _ _) hb2)
  clear hb2
  go_wp2_with fail
  go_ret
  exact ⟨rfl, HB.out⟩
theorem cellB {w : World} {ad : Addr} {l : List Int} (hC : Kd.C (Kd.int .u8) w (some ad) l.length l) (k : Nat) (hk : k < l.length) : w.cell? (ad.add k) = some (.int .u8 (rd l (k : Int))) := by
  have hrd := Kd.reads_of_C (enc := Value.int .u8) (d := (0 : Int)) (h1 := fun _ => rfl) hC
  obtain ⟨ad', e, hc⟩ := hrd.2.2 (by omega)
  obtain rfl := Option.some.inj e
  rw [hc k hk]
  simp [rd]
/-- The key's line at a place. -/
structure KeyAt (l : List Int) (ks i : Nat) : Prop where
  two : 2 ≤ i
  room : i + ks < l.length
  lf : rd l ((i - 1 : Nat) : Int) = 10
  cr : rd l ((i - 2 : Nat) : Int) = 13
  colon : rd l ((i + ks : Nat) : Int) = 58
set_option maxHeartbeats 8000000 in
set_option maxRecDepth 100000 in
theorem gi_some (key : ByteArray) (hk0 : 0 < key.size) (hks : key.size ≤ 2147483647) (ad : Addr) (c : Nat) (l : List Int) (w : World) (hC : Kd.C (Kd.int .u8) w (some ad) l.length l) (hcp : l.length ≤ c) (hl : l.length ≤ 2147483647) (i : Nat) (hno : ∀ j, j < i → hitAt l (bytesOf key) j = false) (hhit : hitAt l (bytesOf key) i = true) (hk : KeyAt l key.size i) :
    Calls Try.prog 28 #[.string key, .slice (some ad) l.length c] w fun e w' => e = .returned (.int .i64 (i : Int)) ∧ Below w.heap.size w w' := by
  obtain ⟨h2, hroom, hlf, hcr, hcol⟩ := hk
  have d0 : ((l.length : Int) == 0) = false := beq_eq_false_iff_ne.2 (by omega)
  have k4 := eq_true (show l.length ≤ c from hcp)
  have k5 := eq_false (show ¬ c = 0 by omega)
  have HZ := Aside0.mk (zz_key ad c l key w hC hcp hl hk0 hks i (i : Int) (fun j hj => ⟨by omega, hno j hj⟩) (.inl ⟨by omega, hhit, rfl⟩))
  obtain ⟨i1, hi1⟩ : ∃ i1, i1 = i - 1 := ⟨_, rfl⟩
  obtain ⟨i2, hi2⟩ : ∃ i2, i2 = i - 2 := ⟨_, rfl⟩
  obtain ⟨L1, hL1⟩ : ∃ L1, L1 = l.length - 1 := ⟨_, rfl⟩
  obtain ⟨ee, hee⟩ : ∃ ee, ee = i + key.size := ⟨_, rfl⟩
  rw [← hi1] at hlf
  rw [← hi2] at hcr
  rw [← hee] at hcol
  have d1 : decide ((i : Int) < 2) = false := decide_eq_false (by omega)
  have d1' : decide (i < 2) = false := decide_eq_false (by omega)
  have d2 : decide ((L1 : Int) ≤ (i : Int)) = false := decide_eq_false (by omega)
  have d2' : decide (L1 ≤ i) = false := decide_eq_false (by omega)
  have d3 : decide ((l.length : Int) ≤ (ee : Int)) = false := decide_eq_false (by omega)
  have d3' : decide (l.length ≤ ee) = false := decide_eq_false (by omega)
  have b1 := eq_true (show i1 < l.length by omega)
  have b2 := eq_true (show i2 < l.length by omega)
  have b3 := eq_true (show ee < l.length by omega)
  have b4 := eq_true (show (i1 : Int) < (l.length : Int) by omega)
  have b5 := eq_true (show (i2 : Int) < (l.length : Int) by omega)
  have b6 := eq_true (show (ee : Int) < (l.length : Int) by omega)
  have b7 := eq_true (show (0 : Int) ≤ (i1 : Int) by omega)
  have b8 := eq_true (show (0 : Int) ≤ (i2 : Int) by omega)
  have b9 := eq_true (show (0 : Int) ≤ (ee : Int) by omega)
  have HC := Aside0.mk hC
  have HLF := Aside0.mk hlf
  have HCR := Aside0.mk hcr
  have HCOL := Aside0.mk hcol
  have B1 := Aside0.mk (show i1 < l.length by omega)
  have B2 := Aside0.mk (show i2 < l.length by omega)
  have B3 := Aside0.mk (show ee < l.length by omega)
  have E : wrap64 ((i : Int) - 1) = (i1 : Int) ∧ wrap64 ((i : Int) - 2) = (i2 : Int) ∧ wrap64 ((l.length : Int) - 1) = (L1 : Int) ∧ wrap64 ((i : Int) + (key.size : Int)) = (ee : Int) ∧ wrap64 (i : Int) = (i : Int) :=
    ⟨w64 _ _ (by omega) (by omega) (by omega), w64 _ _ (by omega) (by omega) (by omega), w64 _ _ (by omega) (by omega) (by omega), w64 _ _ (by omega) (by omega) (by omega), w64 _ _ rfl (by omega) (by omega)⟩
  obtain ⟨e1, e2, e3, e4, e5⟩ := E
  clear hC hcp hl hno hhit hks hk0 h2 hroom hlf hcr hcol hi1 hi2 hL1 hee
  go_enter Try.func28, Try.ntmps28
  go_wp2_with fail
  refine (stb.walk key w).mono ?_
  rintro e w1 ⟨rfl, rfl⟩
  go_wp2_with fail
  refine wp_loop_rounds 1 ?_
  rw [rounds_succ]
  go_wp2_with fail
  refine HZ.out.mono ?_
  rintro e w2 ⟨rfl, hb2⟩
  have HB := Aside0.mk (below_step (bytes_below (Below.refl w.heap.size w) (Nat.le_refl _) _ _) hb2)
  have c1 := cellB (Kd.C_below HC.out HB.out) i1 B1.out
  have c2 := cellB (Kd.C_below HC.out HB.out) i2 B2.out
  have c3 := cellB (Kd.C_below HC.out HB.out) ee B3.out
  rw [HLF.out] at c1
  rw [HCR.out] at c2
  rw [HCOL.out] at c3
  clear hb2
  go_wp2_with fail
  go_ret
  exact ⟨by show Ending.returned (.int .i64 (wrap64 (i : Int))) = _; rw [e5], HB.out⟩
abbrev ownB (w : World) (N : Nat) (v : Value) (l : List Int) : Prop := w.ownsRow N 5 1 v l.length (l.map (Value.int .u8))
theorem own_C {w : World} {N : Nat} {A : Option Addr} {n c : Nat} {l : List Int} (h : ownB w N (.slice A n c) l) : Kd.C (Kd.int .u8) w A l.length l ∧ n = l.length ∧ n ≤ c ∧ c ≤ maxLen := by
  rcases h.2 with ⟨e, h0⟩ | ⟨g, cap, cur, e, hb, hg, hnc, hcm, hcs, ht⟩
  · injection e with e1 e2 e3
    subst e1 e2 e3
    refine ⟨Kd.C_of_reads (enc := Value.int .u8) (d := (0 : Int)) (h1 := fun _ => rfl) ⟨rfl, by rw [h0]; decide, fun hn => by omega⟩, h0.symm, Nat.le_refl _, by decide⟩
  · injection e with e1 e2 e3
    subst e1 e2 e3
    refine ⟨Kd.C_of_reads (enc := Value.int .u8) (d := (0 : Int)) (h1 := fun _ => rfl) ⟨rfl, Nat.le_trans hnc hcm, fun hn => ⟨⟨g, 0, none⟩, rfl, fun j hj => ?_⟩⟩, rfl, hnc, hcm⟩
    have := h.cells (g := g) rfl j (.int .u8 (l[j]'hj)) (by rw [List.getElem?_map, List.getElem?_eq_getElem hj]; rfl)
    rw [this, List.getD_eq_getElem?_getD, List.getElem?_eq_getElem hj]
    rfl
theorem own_take {w : World} {N g c : Nat} {l : List Int} (h : ownB w N (.slice (some ⟨g, 0, none⟩) l.length c) l) (i : Nat) (hi : i ≤ l.length) : w.ownsRow N 5 1 (.slice (some ⟨g, 0, none⟩) i c) i ((l.take i).map (Value.int .u8)) := by
  rcases h.2 with ⟨e, _⟩ | ⟨g', cap, cur, e, hb, hg, hnc, hcm, hcs, ht⟩
  · cases e
  · injection e with e1 e2 e3
    injection e1 with e1
    injection e1 with e1
    subst e1 e3
    refine ⟨by rw [List.length_map, List.length_take]; omega, .inr ⟨g, c, cur, rfl, hb, hg, by omega, hcm, hcs, ?_⟩⟩
    rw [Nat.mul_one] at ht ⊢
    rw [List.map_take, ← ht, List.take_take, Nat.min_eq_left hi]
theorem own_below {w w' : World} {N : Nat} {v : Value} {l : List Int} (h : ownB w N v l) (hb : Below w.heap.size w w') : ownB w' N v l := by
  refine ⟨h.1, ?_⟩
  rcases h.2 with hn | ⟨g, cap, cur, rfl, hbg, hgg, rest⟩
  · exact .inl hn
  · exact .inr ⟨g, cap, cur, rfl, hbg, (hb.block g (Array.getElem?_eq_some_iff.1 hgg).1).trans hgg, rest⟩
set_option maxHeartbeats 8000000 in
set_option maxRecDepth 100000 in
theorem rm_none (key : ByteArray) (hk0 : 0 < key.size) (hks : key.size ≤ 2147483647) (ad : Addr) (c : Nat) (l : List Int) (w : World) (hC : Kd.C (Kd.int .u8) w (some ad) l.length l) (hcp : l.length ≤ c) (hl : l.length ≤ 2147483647) (hne : 0 < l.length) (hno : ∀ j, j + key.size ≤ l.length → hitAt l (bytesOf key) j = false) :
    Calls Try.prog 26 #[.slice (some ad) l.length c, .string key] w fun e w' => e = .returned (.slice (some ad) l.length c) ∧ Below w.heap.size w w' := by
  have HG := Aside0.mk (gi_none key hk0 hks ad c l w hC hcp hl hne hno)
  clear hC hcp hl hne hno hks hk0
  go_enter Try.func26, Try.ntmps26
  go_wp2_with fail
  refine wp_loop_rounds 1 ?_
  rw [rounds_succ]
  go_wp2_with fail
  refine HG.out.mono ?_
  rintro e w1 ⟨rfl, hb⟩
  have HB := Aside0.mk hb
  clear hb
  go_wp2_with fail
  go_ret
  exact ⟨rfl, HB.out⟩
theorem add_at (g i : Nat) : (⟨g, 0, none⟩ : Addr).add i = ⟨g, i, none⟩ := by unfold Addr.add; split <;> simp_all
theorem dropB_C {w : World} {ad : Addr} {l : List Int} (hC : Kd.C (Kd.int .u8) w (some ad) l.length l) (k : Nat) (hk : k ≤ l.length) : Kd.C (Kd.int .u8) w (some (ad.add k)) (l.drop k).length (l.drop k) := by
  have := cutB_C hC k (l.length - k) (by omega)
  rwa [List.take_of_length_le (by rw [List.length_drop]; exact Nat.le_refl _)] at this
theorem crlf_C (w : World) (T : TypeId) (fr : Nat × Nat) : Kd.C (Kd.int .u8) (w.alloc (.cells #[.int .u8 13, .int .u8 10] T fr)) (some ⟨w.heap.size, 0, none⟩) 2 [13, 10] := by
  refine Kd.C_of_reads (enc := Value.int .u8) (d := (0 : Int)) (h1 := fun _ => rfl) ⟨rfl, by decide, fun hn => ⟨_, rfl, fun j hj => ?_⟩⟩
  have hg : (w.alloc (.cells #[.int .u8 13, .int .u8 10] T fr)).heap[w.heap.size]? = some (.cells #[.int .u8 13, .int .u8 10] T fr) := heap_alloc_new w _
  rw [add_at, cell_of_heap hg]
  match j, hj with
  | 0, _ => rfl
  | 1, _ => rfl
theorem binfo : (Try.prog.info? 5).map (fun i => (i.zero, i.size, i.bytes)) = some (some (.int .u8 0), 1, 1) := by kernel_rfl
/-- What is left of a header without a line. -/
def cutL (l : List Int) (i x : Nat) : List Int := l.take i ++ l.drop x
set_option maxHeartbeats 8000000 in
set_option maxRecDepth 100000 in
theorem rm_some (key : ByteArray) (hk0 : 0 < key.size) (hks : key.size ≤ 2147483647) (g : Nat) (ad : Addr) (had : ad = ⟨g, 0, none⟩) (c : Nat) (l : List Int) (w : World) (N : Nat) (hN : N ≤ w.heap.size) (hR : ownB w N (.slice (some ad) l.length c) l) (hl : l.length ≤ 2147483647)
    (i : Nat) (hno : ∀ j, j < i → hitAt l (bytesOf key) j = false) (hhit : hitAt l (bytesOf key) i = true) (hk : KeyAt l key.size i)
    (e0 : Nat) (hno2 : ∀ j, j < e0 → j + 2 ≤ (l.drop i).length ∧ hitAt (l.drop i) [13, 10] j = false) (hhit2 : e0 + 2 ≤ (l.drop i).length ∧ hitAt (l.drop i) [13, 10] e0 = true) (x : Nat) (hx : x = i + e0 + 2) (hxl : x < l.length)
    (l' : List Int) (hl' : l' = cutL l i x) (hno3 : ∀ j, j + key.size ≤ l'.length → hitAt l' (bytesOf key) j = false) (rl : List Int) (hrl : rl = if l'.length ≤ 12 then [] else l') :
    Calls Try.prog 26 #[.slice (some ad) l.length c, .string key] w fun e w' => ∃ v, e = .returned v ∧ Below N w w' ∧ ownB w' N v rl := by
  have HRL := Aside0.mk hrl
  clear hrl
  obtain ⟨i0, hi0, hz0, hz1, hz2⟩ := info_parts binfo
  have HO := Aside0.mk hR
  have HAD := Aside0.mk had
  clear had
  obtain ⟨hC, -, hcp, hcm⟩ := own_C hR
  have HG := Aside0.mk (gi_some key hk0 hks ad c l w hC hcp hl i hno hhit hk)
  obtain ⟨h2, hroom, hlf, hcr, hcol⟩ := hk
  have hdl : (l.drop i).length = l.length - i := List.length_drop
  have hll : l'.length = i + (l.length - x) := by rw [hl', cutL, List.length_append, List.length_take, List.length_drop]; omega
  have HGN := fun (W : World) (A : Addr) (c' : Nat) (h1 : Kd.C (Kd.int .u8) W (some A) l'.length l') (h2 : l'.length ≤ c') => gi_none key hk0 hks A c' l' W h1 h2 (by omega) (by omega) hno3
  have HZ := fun (W : World) (A1 : Option Addr) (c1 : Nat) (h : Kd.C (Kd.int .u8) W (some (ad.add i)) (l.drop i).length (l.drop i)) (h1 : Kd.C (Kd.int .u8) W A1 2 [13, 10]) => zz_walk (ad.add i) (c - i) (l.drop i) [13, 10] A1 c1 W h (by omega) (by omega) h1 (by decide) (by decide) e0 (e0 : Int) hno2 (.inl ⟨hhit2.1, hhit2.2, rfl⟩)
  obtain ⟨i1, hi1⟩ : ∃ i1, i1 = i - 1 := ⟨_, rfl⟩
  obtain ⟨ee, hee⟩ : ∃ ee, ee = i + key.size := ⟨_, rfl⟩
  rw [← hi1] at hlf
  rw [← hee] at hcol
  have d1 : decide ((i : Int) < 1) = false := decide_eq_false (by omega)
  have d1' : decide (i < 1) = false := decide_eq_false (by omega)
  have d3 : decide ((l.length : Int) ≤ (ee : Int)) = false := decide_eq_false (by omega)
  have d3' : decide (l.length ≤ ee) = false := decide_eq_false (by omega)
  have b1 := eq_true (show i1 < l.length by omega)
  have b3 := eq_true (show ee < l.length by omega)
  have b4 := eq_true (show (i1 : Int) < (l.length : Int) by omega)
  have b6 := eq_true (show (ee : Int) < (l.length : Int) by omega)
  have b7 := eq_true (show (0 : Int) ≤ (i1 : Int) by omega)
  have b9 := eq_true (show (0 : Int) ≤ (ee : Int) by omega)
  have b10 := eq_true (show i ≤ l.length by omega)
  have b11 := eq_true (show l.length ≤ c by omega)
  have b12 := eq_true (show i ≤ c by omega)
  have b13 := eq_true (show x ≤ l.length by omega)
  have b14 := eq_false (show ¬ c = i by omega)
  have b15 := eq_false (show ¬ c = x by omega)
  have b16 := eq_false (show ¬ (e0 : Int) < 0 by omega)
  have b17 := eq_true (show (i : Int) ≤ (l.length : Int) by omega)
  have b18 := eq_true (show (x : Int) ≤ (l.length : Int) by omega)
  have b19 := eq_true (show (i : Int) ≤ (c : Int) by omega)
  have B1 := Aside0.mk (show i1 < l.length by omega)
  have B3 := Aside0.mk (show ee < l.length by omega)
  have HLF := Aside0.mk hlf
  have HCOL := Aside0.mk hcol
  have HC := Aside0.mk hC
  have HX := Aside0.mk (And.intro hx hxl)
  have HDL := Aside0.mk hdl
  have HLL := Aside0.mk hll
  have HL' := Aside0.mk hl'
  have HI := Aside0.mk (show 1 ≤ i ∧ i < l.length by omega)
  have HN := Aside0.mk hN
  have HCP := Aside0.mk hcp
  have HCM := Aside0.mk hcm
  have HL := Aside0.mk hl
  have HZ' := Aside0.mk HZ
  have HGN' := Aside0.mk HGN
  obtain ⟨s0, hs0⟩ : ∃ s0, s0 = i + e0 := ⟨_, rfl⟩
  have HE := Aside0.mk (show IntKind.i64.wrap ((i : Int) + (e0 : Int)) = (s0 : Int) ∧ IntKind.i64.wrap ((s0 : Int) + 2) = (x : Int) from ⟨wi64 _ _ (by omega) (by omega) (by omega), wi64 _ _ (by omega) (by omega) (by omega)⟩)
  have E : wrap64 ((i : Int) - 1) = (i1 : Int) ∧ wrap64 ((i : Int) + (e0 : Int)) = (s0 : Int) ∧ wrap64 ((s0 : Int) + 2) = (x : Int) ∧ wrap64 ((i : Int) + (key.size : Int)) = (ee : Int) :=
    ⟨w64 _ _ (by omega) (by omega) (by omega), w64 _ _ (by omega) (by omega) (by omega), w64 _ _ (by omega) (by omega) (by omega), w64 _ _ (by omega) (by omega) (by omega)⟩
  obtain ⟨e1, e2, e3, e4⟩ := E
  clear hs0 hR hC hcp hcm hl hno hhit hno2 hhit2 hno3 hks hk0 h2 hroom hlf hcr hcol hi1 hee hdl hll hx hxl hl' HZ HGN hN
  have kc := fun (w : World) (C : Array Value) (n c : Nat) => Lib.run_convert_bytes_const (P := Try.prog) w 27 5 C n c Try.underlying27 Try.underlying5
  go_enter Try.func26, Try.ntmps26
  go_wp2_with fail
  refine wp_loop_rounds 2 ?_
  rw [rounds_succ]
  go_wp2_with fail
  refine HG.out.mono ?_
  rintro e w1 ⟨rfl, hb⟩
  have HB := Aside0.mk (show Below w.heap.size w w1 from hb)
  have c1 := cellB (Kd.C_below HC.out hb) i1 B1.out
  have c3 := cellB (Kd.C_below HC.out hb) ee B3.out
  rw [HLF.out] at c1
  rw [HCOL.out] at c3
  clear hb
  go_wp2_with fail
  have hz := HZ'.out (w1.alloc (.cells #[.int .u8 13, .int .u8 10] 5 (2, 3))) (some ⟨w1.heap.size, 0, none⟩) 2 (dropB_C (Kd.C_below HC.out (below_alloc HB.out _)) i (by have := HI.out; omega)) (crlf_C w1 5 (2, 3))
  rw [HDL.out] at hz
  refine hz.mono ?_
  rintro e w2 ⟨rfl, hb2⟩
  have HB2 := Aside0.mk (below_step (below_alloc HB.out _) hb2)
  clear hz hb2 HB
  go_wp2_with fail
  obtain ⟨e5, e6⟩ := HE.out
  go_still_tail 9, (by kernel_rfl)
  change wpList _ _ _ _ _ w2.drew
  have hown := own_below HO.out HB2.out
  rw [HAD.out] at hown
  have hown2 : w2.drew.ownsRow N 5 1 (.slice (some ad) i c) i ((l.take i).map (Value.int .u8)) := by
    rw [HAD.out]; exact own_take hown i (by have := HI.out; omega)
  refine wpList_append_own _ rfl _ _ 27 rfl N 5 i0 (.int .u8 0) 1 1 Try.underlying27 hi0 hz0 hz1 hz2 rfl (by decide) _ i ((l.take i).map (Value.int .u8)) rfl hown2 (ad.add x) (l.length - x) (c - x) ((l.drop x).map (Value.int .u8)) rfl ?c1 ?c2 ?c3 ?c4 ?c5 ?c6 ?_
  case c1 => rw [List.length_map, List.length_drop, Nat.mul_one]
  case c2 =>
    intro j u hu
    have hj : x + j < l.length := by
      have := (List.getElem?_eq_some_iff.1 hu).1
      rw [List.length_map, List.length_drop] at this
      omega
    have ea : (ad.add x).add j = ad.add (x + j) := by unfold Addr.add; split <;> split <;> simp_all [Nat.add_assoc]
    have hcb := cellB (Kd.C_below HC.out HB2.out) (x + j) hj
    rw [ea]
    refine hcb.trans ?_
    rw [← hu, List.getElem?_map, List.getElem?_drop, List.getElem?_eq_getElem hj]
    simp only [rd, Int.toNat_natCast, List.getD_eq_getElem?_getD, List.getElem?_eq_getElem hj]
    rfl
  case c3 => intro u hu; obtain ⟨_, _, rfl⟩ := List.mem_map.1 hu; rfl
  case c4 => have := HI.out; have := HX.out; have := HL.out; simp only [maxLen]; omega
  case c5 => have := HI.out; have := HX.out; have := HL.out; omega
  case c6 => exact Nat.le_trans HN.out HB2.out.size
  intro v3 w3 ho3 hg3 _
  have ho4 : ownB w3 N v3 l' := by
    have := HLL.out
    show w3.ownsRow N 5 1 v3 l'.length (l'.map (Value.int .u8))
    rw [this, HL'.out, cutL, List.map_append]
    exact ho3
  have hbN : Below N w w3 := (below_drew (HB2.out.mono HN.out)).grown hg3 (Nat.le_trans HN.out HB2.out.size) (fun k hk => (World.ownsRow.lt hown2 k hk).1)
  obtain ⟨A3, c3', rfl, hn3⟩ : ∃ A3 c3', v3 = .slice (some A3) l'.length c3' ∧ l'.length ≤ c3' := by
    rcases ho4.2 with ⟨_, h0⟩ | ⟨g', cap, cur, e, _, _, h1, _⟩
    · have := HLL.out; have := HI.out; omega
    · exact ⟨_, _, e, h1⟩
  have HO4 := Aside0.mk ho4
  have HBN := Aside0.mk hbN
  have HN3 := Aside0.mk hn3
  clear hown hown2 ho3 hg3 ho4 hbN hn3
  by_cases hle : l'.length ≤ 12
  · have q1 : decide ((l'.length : Int) ≤ 12) = true := decide_eq_true (by omega)
    have q2 : decide (l'.length ≤ 12) = true := decide_eq_true hle
    have HLE := Aside0.mk hle
    clear hle
    go_wp2_with fail
    go_ret
    exact ⟨_, rfl, HBN.out, by rw [HRL.out, if_pos HLE.out]; exact World.ownsRow_nil _ _ _ _⟩
  · have q1 : decide ((l'.length : Int) ≤ 12) = false := decide_eq_false (by omega)
    have q2 : decide (l'.length ≤ 12) = false := decide_eq_false hle
    have HLE := Aside0.mk hle
    clear hle
    go_wp2_with fail
    rw [rounds_succ]
    go_wp2_with fail
    refine (HGN'.out w3 A3 c3' (own_C HO4.out).1 HN3.out).mono ?_
    rintro e w4 ⟨rfl, hb4⟩
    have HB4 := Aside0.mk hb4
    clear hb4
    go_wp2_with fail
    go_ret
    exact ⟨_, rfl, HBN.out.trans (HB4.out.mono (Nat.le_trans HN.out HBN.out.size)), by rw [HRL.out, if_neg HLE.out]; exact own_below HO4.out HB4.out⟩
/-- The first place of a text. -/
def firstHit (l sep : List Int) : Option Nat := (List.range (l.length + 1)).find? fun k => decide (k + sep.length ≤ l.length) && hitAt l sep k
theorem hit_some {l sep : List Int} {i : Nat} (h : firstHit l sep = some i) : i + sep.length ≤ l.length ∧ hitAt l sep i = true ∧ ∀ j, j < i → hitAt l sep j = false := by
  obtain ⟨h1, h2, h3⟩ := List.find?_range_eq_some.1 h
  rw [Bool.and_eq_true, decide_eq_true_eq] at h1
  refine ⟨h1.1, h1.2, fun j hj => ?_⟩
  have h4 := h3 j hj
  rw [Bool.not_eq_true', Bool.and_eq_false_iff] at h4
  rcases h4 with h4 | h4
  · exact absurd (of_decide_eq_false h4) (by omega)
  · exact h4
theorem hit_none {l sep : List Int} (h : firstHit l sep = none) : ∀ j, j + sep.length ≤ l.length → hitAt l sep j = false := by
  intro j hj
  have h1 := List.find?_range_eq_none.1 h j (by omega)
  rw [Bool.not_eq_true', Bool.and_eq_false_iff] at h1
  rcases h1 with h1 | h1
  · exact absurd hj (of_decide_eq_false h1)
  · exact h1
theorem hit_is {l sep : List Int} {i : Nat} (h1 : i + sep.length ≤ l.length) (h2 : hitAt l sep i = true) (h3 : ∀ j, j < i → hitAt l sep j = false) : firstHit l sep = some i := by
  refine List.find?_range_eq_some.2 ⟨by simp [h1, h2], List.mem_range.2 (by omega), fun j hj => by simp [h3 j hj]⟩
theorem hit_no {l sep : List Int} (h : ∀ j, j + sep.length ≤ l.length → hitAt l sep j = false) : firstHit l sep = none := by
  refine List.find?_range_eq_none.2 fun j _ => ?_
  by_cases hj : j + sep.length ≤ l.length
  · simp [h j hj]
  · simp [hj]
/-- The key's line, cut. -/
def removeL (l : List Int) (ks : Nat) (keyI : List Int) : Option (List Int) :=
  match firstHit l keyI with
  | none => some l
  | some i =>
    if 2 ≤ i ∧ i + ks < l.length ∧ rd l ((i - 1 : Nat) : Int) = 10 ∧ rd l ((i - 2 : Nat) : Int) = 13 ∧ rd l ((i + ks : Nat) : Int) = 58 then
      match firstHit (l.drop i) [13, 10] with
      | none => none
      | some e0 => if i + e0 + 2 < l.length ∧ firstHit (cutL l i (i + e0 + 2)) keyI = none then some (if (cutL l i (i + e0 + 2)).length ≤ 12 then [] else cutL l i (i + e0 + 2)) else none
    else none
def impl_HeaderRemoveR.f (l : List Int) (key : ByteArray) : Option (List Int) := if 0 < key.size ∧ key.size ≤ 2147483647 ∧ 0 < l.length ∧ l.length ≤ 2147483647 then removeL l key.size (bytesOf key) else none
set_option maxHeartbeats 8000000 in
theorem rm_all (key : ByteArray) (l r : List Int) (h : impl_HeaderRemoveR.f l key = some r) (v : Value) (w : World) (N : Nat) (hN : N ≤ w.heap.size) (hR : ownB w N v l) :
    Calls Try.prog 26 #[v, .string key] w fun e w' => ∃ v, e = .returned v ∧ Below N w w' ∧ ownB w' N v r := by
  unfold impl_HeaderRemoveR.f at h
  split at h
  · rename_i hc
    obtain ⟨hk0, hks, hl0, hl⟩ := hc
    obtain ⟨g, c, rfl⟩ : ∃ g c, v = .slice (some ⟨g, 0, none⟩) l.length c := by
      rcases hR.2 with ⟨_, h0⟩ | ⟨g', cap, cur, e, _⟩
      · omega
      · exact ⟨_, _, e⟩
    obtain ⟨hC, -, hcp, hcm⟩ := own_C hR
    unfold removeL at h
    split at h
    · rename_i hn
      obtain rfl := Option.some.inj h
      refine (rm_none key hk0 hks ⟨g, 0, none⟩ c l w hC hcp hl hl0 (fun j hj => hit_none hn j (by rw [bytesOf_length]; exact hj))).mono ?_
      rintro e w' ⟨rfl, hb⟩
      exact ⟨_, rfl, hb.mono hN, own_below hR hb⟩
    · rename_i i hi
      obtain ⟨h1, h2, h3⟩ := hit_some hi
      split at h
      · rename_i hk
        split at h
        · cases h
        · rename_i e0 he
          obtain ⟨g1, g2, g3⟩ := hit_some he
          split at h
          · rename_i hx
            refine rm_some key hk0 hks g ⟨g, 0, none⟩ rfl c l w N hN hR hl i h3 h2 ⟨hk.1, hk.2.1, hk.2.2.1, hk.2.2.2.1, hk.2.2.2.2⟩ e0 (fun j hj => ⟨?_, g3 j hj⟩) ⟨g1, g2⟩ _ rfl hx.1 _ rfl (fun j hj => hit_none hx.2 j (by rw [bytesOf_length]; exact hj)) r (Option.some.inj h).symm
            have : e0 + 2 ≤ (l.drop i).length := g1
            omega
          · cases h
      · cases h
  · cases h
theorem door.walk (key : ByteArray) (l r : List Int) (h : impl_HeaderRemoveR.f l key = some r) (v : Value) (w : World) (N : Nat) (hN : N ≤ w.heap.size) (hR : ownB w N v l) :
    Calls Try.prog 22 #[v, .string key] w fun e w' => ∃ v, e = .returned v ∧ Below N w w' ∧ ownB w' N v r := by
  have HD := Aside0.mk (rm_all key l r h v w N hN hR)
  clear h hN hR
  go_enter Try.func22, Try.ntmps22
  go_wp2_with fail
  refine HD.out.mono ?_
  rintro e w2 ⟨v2, rfl, hb, ho⟩
  have HB := Aside0.mk hb
  have HO := Aside0.mk ho
  clear hb ho
  go_wp2_with fail
  go_ret
  exact ⟨_, rfl, HB.out, HO.out⟩
set_option maxHeartbeats 8000000 in
set_option maxRecDepth 100000 in
theorem sh_none (key : ByteArray) (hk0 : 0 < key.size) (hks : key.size ≤ 2147483647) (ad : Addr) (c : Nat) (l : List Int) (w : World) (hC : Kd.C (Kd.int .u8) w (some ad) l.length l) (hcp : l.length ≤ c) (hl : l.length ≤ 2147483647) (hne : 0 < l.length) (hno : ∀ j, j + key.size ≤ l.length → hitAt l (bytesOf key) j = false) :
    Calls Try.prog 27 #[.string key, .slice (some ad) l.length c] w fun e w' => e = .returned (.slice none 0 0) ∧ Below w.heap.size w w' := by
  have HG := Aside0.mk (gi_none key hk0 hks ad c l w hC hcp hl hne hno)
  have d0 : ((l.length : Int) == 0) = false := beq_eq_false_iff_ne.2 (by omega)
  clear hC hcp hl hne hno hks hk0
  go_enter Try.func27, Try.ntmps27
  go_wp2_with fail
  refine HG.out.mono ?_
  rintro e w1 ⟨rfl, hb⟩
  have HB := Aside0.mk hb
  clear hb
  go_wp2_with fail
  go_ret
  exact ⟨rfl, HB.out⟩
set_option maxHeartbeats 8000000 in
set_option maxRecDepth 100000 in
theorem sh_some (key : ByteArray) (hk0 : 0 < key.size) (hks : key.size ≤ 2147483647) (ad : Addr) (c : Nat) (l : List Int) (w : World) (hC : Kd.C (Kd.int .u8) w (some ad) l.length l) (hcp : l.length ≤ c) (hl : l.length ≤ 2147483647) (i : Nat) (hno : ∀ j, j < i → hitAt l (bytesOf key) j = false) (hhit : hitAt l (bytesOf key) i = true) (hk : KeyAt l key.size i)
    (s e0 : Nat) (hs1 : i + key.size + 1 ≤ s) (hsp : ∀ k : Nat, i + key.size + 1 ≤ k → k < s → rd l (k : Int) = 32) (hs2 : rd l (s : Int) ≠ 32) (he1 : s ≤ e0) (he2 : e0 + 1 < l.length) (hcr : rd l (e0 : Int) = 13) (hlf : rd l ((e0 + 1 : Nat) : Int) = 10) (hnot : ∀ k : Nat, s ≤ k → k < e0 → ¬ (rd l (k : Int) = 13 ∧ rd l ((k + 1 : Nat) : Int) = 10)) :
    Calls Try.prog 27 #[.string key, .slice (some ad) l.length c] w fun e w' => ∃ A, e = .returned (.slice (some A) (e0 - s) (e0 - s)) ∧ (A = ad.add s ∨ e0 = s) ∧ Below w.heap.size w w' := by
  have HG := Aside0.mk (gi_some key hk0 hks ad c l w hC hcp hl i hno hhit hk)
  obtain ⟨h2, hroom, -, -, -⟩ := hk
  have d0 : ((l.length : Int) == 0) = false := beq_eq_false_iff_ne.2 (by omega)
  have d1 : ((i : Int) == -1) = false := beq_eq_false_iff_ne.2 (by omega)
  have d1' : decide ((i : Int) = -1) = false := decide_eq_false (by omega)
  obtain ⟨L1, hL1⟩ : ∃ L1, L1 = l.length - 1 := ⟨_, rfl⟩
  obtain ⟨k1, hk1⟩ : ∃ k1, k1 = key.size + 1 := ⟨_, rfl⟩
  obtain ⟨p, hp⟩ : ∃ p, p = i + k1 := ⟨_, rfl⟩
  have HSP := Aside0.mk (show ∀ k : Nat, p ≤ k → k < s → rd l (k : Int) = 32 from fun k h1 h2 => hsp k (by omega) h2)
  have HPS := Aside0.mk (show p ≤ s by omega)
  have HC := Aside0.mk hC
  have HCP := Aside0.mk hcp
  have HL := Aside0.mk hl
  have HS2 := Aside0.mk hs2
  have HE := Aside0.mk (And.intro he1 he2)
  have HCR := Aside0.mk hcr
  have HLF := Aside0.mk hlf
  have HNOT := Aside0.mk hnot
  have HL1 := Aside0.mk hL1
  have HW := Aside0.mk (show wrap64 ((key.size : Int) + 1) = (k1 : Int) ∧ wrap64 ((i : Int) + (k1 : Int)) = (p : Int) ∧ wrap64 ((l.length : Int) - 1) = (L1 : Int) from ⟨w64 _ _ (by omega) (by omega) (by omega), w64 _ _ (by omega) (by omega) (by omega), w64 _ _ (by omega) (by omega) (by omega)⟩)
  have HKW := Aside0.mk (show ∀ k : Nat, k < l.length → wrap64 ((k : Int) + 1) = ((k + 1 : Nat) : Int) from fun k h => wrap_nat k (by omega))
  clear hC hcp hl hno hhit hks hk0 h2 hroom hs1 hsp hs2 he1 he2 hcr hlf hnot hL1 hk1 hp
  go_enter Try.func27, Try.ntmps27
  go_wp2_with fail
  refine HG.out.mono ?_
  rintro e w1 ⟨rfl, hb⟩
  have HB := Aside0.mk hb
  clear hb
  obtain ⟨e1, e2, -⟩ := HW.out
  go_wp2_with fail
  clear e1 e2
  go_loopw [5] (fun v5 w' => ∃ k : Nat, v5 = .int .i64 (k : Int) ∧ Aside0 (p ≤ k ∧ k ≤ s) ∧ Aside0 (Below w.heap.size w w')) (fun v5 _ => Road.leftOf (s + 1) v5)
  case atStart => exact ⟨p, by rw [HW.out.2.1], ⟨Nat.le_refl _, HPS.out⟩, ⟨HB.out⟩⟩
  case round =>
    obtain ⟨k, rfl, HK, HB⟩ := hrel
    have hkl : k < l.length := by have := HK.out; have := HE.out; omega
    have HKN := Aside0.mk (HKW.out k hkl)
    have q1 : decide ((k : Int) < (l.length : Int)) = true := decide_eq_true (by omega)
    have q1' : decide (k < l.length) = true := decide_eq_true hkl
    have q2 := eq_true (show k < l.length from hkl)
    have q3 := eq_true (show (k : Int) < (l.length : Int) by omega)
    have q4 := eq_true (show (0 : Int) ≤ (k : Int) by omega)
    by_cases hks : k = s
    · obtain ⟨z, hz⟩ : ∃ z, z = rd l (k : Int) := ⟨_, rfl⟩
      have q5 : (z == 32) = false := beq_eq_false_iff_ne.2 (by rw [hz, hks]; exact HS2.out)
      have q6 : decide (z = 32) = false := decide_eq_false (by rw [hz, hks]; exact HS2.out)
      have c1 := cellB (Kd.C_below HC.out HB.out) k hkl
      rw [← hz] at c1
      have HKS := Aside0.mk hks
      clear hz hks hkl
      go_wp2_with fail
      clear q1 q1' q2 q3 q4 q5 q6 c1 HKN
      go_loopw [5] (fun v5 w' => ∃ m : Nat, v5 = .int .i64 (m : Int) ∧ Aside0 (s ≤ m ∧ m ≤ e0) ∧ Aside0 (Below w.heap.size w w')) (fun v5 _ => Road.leftOf (e0 + 1) v5)
      case atStart => exact ⟨k, rfl, ⟨Nat.le_of_eq HKS.out.symm, by rw [HKS.out]; exact HE.out.1⟩, ⟨HB.out⟩⟩
      case round =>
        obtain ⟨m, rfl, HM, HB⟩ := hrel
        obtain ⟨m1, hm1⟩ : ∃ m1, m1 = m + 1 := ⟨_, rfl⟩
        have hm1l : m1 < l.length := by have := HM.out; have := HE.out; omega
        have hml : m < l.length := by omega
        have HKN := Aside0.mk (hm1 ▸ HKW.out m hml : wrap64 ((m : Int) + 1) = (m1 : Int))
        have HMM := Aside0.mk hm1
        have q1 : decide ((m : Int) < (l.length : Int)) = true := decide_eq_true (by omega)
        have q1' : decide (m < l.length) = true := decide_eq_true hml
        have q2 := eq_true (show m < l.length from hml)
        have q3 := eq_true (show (m : Int) < (l.length : Int) by omega)
        have q4 := eq_true (show (0 : Int) ≤ (m : Int) by omega)
        have q5 := eq_true (show m1 < l.length from hm1l)
        have q6 := eq_true (show (m1 : Int) < (l.length : Int) by omega)
        have q7 := eq_true (show (0 : Int) ≤ (m1 : Int) by omega)
        have q8 : decide ((m : Int) < (L1 : Int)) = true := decide_eq_true (by have := HL1.out; omega)
        have q8' : decide (m < L1) = true := decide_eq_true (by have := HL1.out; omega)
        have c1 := cellB (Kd.C_below HC.out HB.out) m hml
        have c2 := cellB (Kd.C_below HC.out HB.out) m1 hm1l
        by_cases hme : m = e0
        · have HME := Aside0.mk hme
          rw [hme, HCR.out] at c1
          rw [hm1, hme, HLF.out] at c2
          rw [← hme] at c1
          rw [← hme, ← hm1] at c2
          have q10 := eq_true (show k ≤ m by rw [hme, HKS.out]; exact HE.out.1)
          have q10' := eq_true (show (k : Int) ≤ (m : Int) by rw [hme, HKS.out]; have := HE.out.1; omega)
          have q11 := eq_true (show m ≤ c by have := HCP.out; omega)
          have q11' := eq_true (show (m : Int) ≤ (c : Int) by have := HCP.out; omega)
          have q12 := eq_true (show (0 : Int) ≤ (k : Int) by omega)
          have e6 := HKN.out
          have e7 := HW.out.2.2
          clear hme hm1 hml hm1l
          go_wp2_with fail
          · go_ret
            have z1 := HKS.out
            have z2 := HME.out
            have z3 : m = k := by first | assumption | (apply Eq.symm; assumption)
            refine ⟨ad, ?_, .inr (z2.symm.trans (z3.trans z1)), HB.out⟩
            rw [← z2, ← z1, z3, Nat.sub_self]
            rfl
          · go_ret
            rw [← HKS.out, ← HME.out]
            exact ⟨_, rfl, .inl rfl, HB.out⟩
        · have HME := Aside0.mk hme
          by_cases h13 : rd l (m : Int) = 13
          · rw [h13] at c1
            obtain ⟨z2, hz2⟩ : ∃ z2, z2 = rd l (m1 : Int) := ⟨_, rfl⟩
            rw [← hz2] at c2
            have hne : z2 ≠ 10 := fun h => HNOT.out m HM.out.1 (by have := HM.out; omega) ⟨h13, by rw [← hm1, ← hz2]; exact h⟩
            have q13 : (z2 == 10) = false := beq_eq_false_iff_ne.2 hne
            have q14 : decide (z2 = 10) = false := decide_eq_false hne
            have e6 := HKN.out
            have e7 := HW.out.2.2
            clear hme hm1 hml hm1l h13 hz2 hne
            go_wp2_with fail
            go_roundw
            case rel => exact ⟨m1, by rw [HKN.out], ⟨by have := HM.out; have := HMM.out; have := HME.out; omega⟩, ⟨HB.out⟩⟩
            case measure => rw [HKN.out, HMM.out]; exact Road.leftOf_lt (by have := HM.out; have := HME.out; omega)
          · obtain ⟨z, hz⟩ : ∃ z, z = rd l (m : Int) := ⟨_, rfl⟩
            rw [← hz] at c1 h13
            have q13 : (z == 13) = false := beq_eq_false_iff_ne.2 h13
            have q14 : decide (z = 13) = false := decide_eq_false h13
            have e6 := HKN.out
            clear hme hm1 hml hm1l h13 hz
            go_wp2_with fail
            go_roundw
            case rel => exact ⟨m1, by rw [HKN.out], ⟨by have := HM.out; have := HMM.out; have := HME.out; omega⟩, ⟨HB.out⟩⟩
            case measure => rw [HKN.out, HMM.out]; exact Road.leftOf_lt (by have := HM.out; have := HME.out; omega)
    · have HKS := Aside0.mk hks
      have c1 := cellB (Kd.C_below HC.out HB.out) k hkl
      rw [HSP.out k HK.out.1 (by have := HK.out; omega)] at c1
      clear hks hkl
      go_wp2_with fail
      go_roundw
      case rel => exact ⟨k + 1, by rw [HKN.out], ⟨by have := HK.out; have := HKS.out; omega⟩, ⟨HB.out⟩⟩
      case measure => rw [HKN.out]; exact Road.leftOf_lt (by have := HK.out; have := HKS.out; omega)
/-- The header's value at a key: from s to e. -/
structure ValAt (l : List Int) (p s e0 : Nat) : Prop where
  from_ : p ≤ s
  sp : ∀ k : Nat, p ≤ k → k < s → rd l (k : Int) = 32
  non : rd l (s : Int) ≠ 32
  upto_ : s ≤ e0
  room : e0 + 1 < l.length
  cr : rd l (e0 : Int) = 13
  lf : rd l ((e0 + 1 : Nat) : Int) = 10
  not_ : ∀ k : Nat, s ≤ k → k < e0 → ¬ (rd l (k : Int) = 13 ∧ rd l ((k + 1 : Nat) : Int) = 10)
set_option maxHeartbeats 8000000 in
set_option maxRecDepth 100000 in
theorem gh_none (key : ByteArray) (hk0 : 0 < key.size) (hks : key.size ≤ 2147483647) (ad : Addr) (c : Nat) (l : List Int) (w : World) (hC : Kd.C (Kd.int .u8) w (some ad) l.length l) (hcp : l.length ≤ c) (hl : l.length ≤ 2147483647) (hne : 0 < l.length) (hno : ∀ j, j + key.size ≤ l.length → hitAt l (bytesOf key) j = false) :
    Calls Try.prog 25 #[.string key, .slice (some ad) l.length c] w fun e w' => e = .returned (.slice none 0 0) ∧ Below w.heap.size w w' := by
  have HG := Aside0.mk (sh_none key hk0 hks ad c l w hC hcp hl hne hno)
  clear hC hcp hl hne hno hks hk0
  have knil := fun (W : World) (A : Option Addr) (n c : Nat) => Lib.run_eql_slice_nil (P := Try.prog) W 27 5 A n c 0 0 Try.underlying27
  go_enter Try.func25, Try.ntmps25
  go_wp2_with fail
  refine HG.out.mono ?_
  rintro e w1 ⟨rfl, hb⟩
  have HB := Aside0.mk hb
  clear hb
  go_wp2_with fail
  go_ret
  exact ⟨rfl, HB.out⟩
set_option maxHeartbeats 8000000 in
set_option maxRecDepth 100000 in
theorem gh_some (key : ByteArray) (hk0 : 0 < key.size) (hks : key.size ≤ 2147483647) (ad : Addr) (c : Nat) (l : List Int) (w : World) (hC : Kd.C (Kd.int .u8) w (some ad) l.length l) (hcp : l.length ≤ c) (hl : l.length ≤ 2147483647) (i : Nat) (hno : ∀ j, j < i → hitAt l (bytesOf key) j = false) (hhit : hitAt l (bytesOf key) i = true) (hk : KeyAt l key.size i)
    (s e0 : Nat) (hv : ValAt l (i + key.size + 1) s e0) :
    Calls Try.prog 25 #[.string key, .slice (some ad) l.length c] w fun e w' => ∃ A n c', e = .returned (.slice (some A) n c') ∧ ownB w' w.heap.size (.slice (some A) n c') ((l.drop s).take (e0 - s)) ∧ Below w.heap.size w w' := by
  have HG := Aside0.mk (sh_some key hk0 hks ad c l w hC hcp hl i hno hhit hk s e0 hv.from_ hv.sp hv.non hv.upto_ hv.room hv.cr hv.lf hv.not_)
  obtain ⟨i0, hi0, hz0, hz1, hz2⟩ := info_parts binfo
  obtain ⟨n, hn⟩ : ∃ n, n = e0 - s := ⟨_, rfl⟩
  rw [← hn] at HG
  have hvl : ((l.drop s).take (e0 - s)).length = n := by rw [List.length_take, List.length_drop]; have := hv.room; have := hv.upto_; omega
  have HNL := Aside0.mk (show n ≤ 2147483647 by have := hv.room; omega)
  have HC := Aside0.mk (show Kd.C (Kd.int .u8) w (some (ad.add s)) n ((l.drop s).take (e0 - s)) from by
    have := cutB_C hC s (e0 - s) (by have := hv.room; have := hv.upto_; omega)
    rwa [hvl] at this)
  have HV := Aside0.mk hv
  have HN := Aside0.mk hn
  have HVL := Aside0.mk hvl
  clear hC hcp hl hno hhit hks hk0 hk hv hvl hn
  have knil := fun (W : World) (A : Option Addr) (n c : Nat) => Lib.run_eql_slice_nil (P := Try.prog) W 27 5 A n c 0 0 Try.underlying27
  go_enter Try.func25, Try.ntmps25
  go_wp2_with fail
  refine HG.out.mono ?_
  rintro e w1 ⟨A, rfl, hA, hb⟩
  have HB := Aside0.mk hb
  have HA := Aside0.mk hA
  clear hb hA
  go_wp2_with (first | (at_make; refine wpList_make_own _ rfl _ _ 27 rfl w.heap.size 5 i0 (.int .u8 0) 1 Try.underlying27 hi0 hz0 hz1 .i64 .i64 _ n rfl rfl rfl (by rw [hz2]; have := HNL.out; omega) (by have := HNL.out; unfold maxLen; omega) HB.out.size ?_))
  intro w2 ho2 hg2
  have HB2 := Aside0.mk (HB.out.grown hg2 HB.out.size (fun k hk => by cases hk))
  have hnews : ∀ j u, (((l.drop s).take (e0 - s)).map (Value.int .u8))[j]? = some u → w2.cell? (A.add j) = some u := by
    intro j u hu
    have hj : j < ((l.drop s).take (e0 - s)).length := by
      have := (List.getElem?_eq_some_iff.1 hu).1
      rwa [List.length_map] at this
    have hA := HA.out.resolve_right (fun e => by rw [HVL.out, HN.out, e, Nat.sub_self] at hj; omega)
    have hc0 := Kd.C_below HC.out HB2.out
    rw [← HVL.out] at hc0
    have hcb := cellB hc0 j hj
    rw [hA]
    refine hcb.trans ?_
    rw [← hu, List.getElem?_map, List.getElem?_eq_getElem hj]
    simp only [rd, Int.toNat_natCast, List.getD_eq_getElem?_getD, List.getElem?_eq_getElem hj]
    rfl
  go_wp2_with (first | (at_builtin; refine wpList_append_own _ rfl _ _ 27 rfl w.heap.size 5 i0 (.int .u8 0) 1 1 Try.underlying27 hi0 hz0 hz1 hz2 rfl (by decide) _ 0 [] rfl ho2 A n n (((l.drop s).take (e0 - s)).map (Value.int .u8)) rfl ?c1 hnews ?c3 ?c4 ?c5 HB2.out.size ?_))
  case c1 => rw [List.length_map, HVL.out, Nat.mul_one]
  case c3 => intro u hu; obtain ⟨_, _, rfl⟩ := List.mem_map.1 hu; rfl
  case c4 => have := HNL.out; simp only [maxLen]; omega
  case c5 => have := HNL.out; omega
  intro v3 w3 ho3 hg3 hn3
  have ho4 : ownB w3 w.heap.size v3 ((l.drop s).take (e0 - s)) := by
    show w3.ownsRow w.heap.size 5 1 v3 ((l.drop s).take (e0 - s)).length _
    rw [HVL.out, List.map_take, List.map_drop]
    exact ho3
  have hb3 : Below w.heap.size w w3 := HB2.out.grown hg3 HB2.out.size (fun k hk => (World.ownsRow.lt ho2 k hk).1)
  obtain ⟨A3, n3, c3, rfl⟩ : ∃ A3 n3 c3, v3 = .slice (some A3) n3 c3 := by
    rcases ho3.2 with ⟨e, _⟩ | ⟨g, cap, cur, e, _⟩
    · exact (hn3 e).elim
    · exact ⟨_, _, _, e⟩
  have HO4 := Aside0.mk ho4
  have HB3 := Aside0.mk hb3
  clear ho2 hg2 hnews ho3 hg3 hn3 ho4 hb3
  go_wp2_with fail
  go_ret
  exact ⟨_, _, _, rfl, HO4.out, HB3.out⟩
/-- The value of a key, if it is there. -/
def getL (l : List Int) (ks : Nat) (keyI : List Int) : Option (Option (List Int)) :=
  match firstHit l keyI with
  | none => some none
  | some i =>
    if 2 ≤ i ∧ i + ks < l.length ∧ rd l ((i - 1 : Nat) : Int) = 10 ∧ rd l ((i - 2 : Nat) : Int) = 13 ∧ rd l ((i + ks : Nat) : Int) = 58 then
      match (List.range l.length).find? fun k => decide (i + ks + 1 ≤ k) && decide (rd l (k : Int) ≠ 32) with
      | none => none
      | some s =>
        match (List.range l.length).find? fun k => decide (s ≤ k) && (decide (rd l (k : Int) = 13) && decide (rd l ((k + 1 : Nat) : Int) = 10)) with
        | none => none
        | some e0 => if e0 + 1 < l.length then some (some ((l.drop s).take (e0 - s))) else none
    else none
def impl_HeaderGetR.f (l : List Int) (key : ByteArray) : Option (List Int × Bool) := if 0 < key.size ∧ key.size ≤ 2147483647 ∧ 0 < l.length ∧ l.length ≤ 2147483647 then (getL l key.size (bytesOf key)).map fun o => (o.getD [], o.isSome) else none
theorem gd_walk (v : Value) (key : ByteArray) (w : World) (Q : Ending → World → Prop) (h : Calls Try.prog 25 #[.string key, v] w Q) (hQ : ∀ e w', Q e w' → ∃ v, e = .returned v) :
    Calls Try.prog 21 #[.string key, v] w Q := by
  have HD := Aside0.mk h
  have HQ := Aside0.mk hQ
  clear h hQ
  go_enter Try.func21, Try.ntmps21
  go_wp2_with fail
  refine HD.out.mono ?_
  intro e w2 hq
  obtain ⟨v2, rfl⟩ := HQ.out e w2 hq
  have HH := Aside0.mk hq
  clear hq
  go_wp2_with fail
  exact HH.out
theorem hg_none (A0 : Option Addr) (c0 : Nat) (l0 : List Int) (a1 : ByteArray) (w : World) (H : Calls Try.prog 25 #[.string a1, .slice A0 l0.length c0] w fun e w' => e = .returned (.slice none 0 0) ∧ Below w.heap.size w w') :
    Calls Try.prog 11 #[.slice A0 l0.length c0, .string a1] w fun e w' => e = .returned (.tuple #[.slice none 0 0, .bool false]) ∧ Below w.heap.size w w' := by
  have HD := Aside0.mk (gd_walk _ a1 w _ H (fun e w' h => ⟨_, h.1⟩))
  clear H
  have knil := fun (W : World) (A : Option Addr) (n c : Nat) => run_neq_slice_nil_any (P := Try.prog) W 27 5 A n c 0 0 Try.underlying27
  go_enter Try.func11, Try.ntmps11
  go_wp2_with fail
  refine HD.out.mono ?_
  rintro e w2 ⟨rfl, hb⟩
  have HB := Aside0.mk hb
  clear hb
  go_wp2_with fail
  go_ret2
  exact ⟨rfl, HB.out⟩
theorem hg_some (A0 : Option Addr) (c0 : Nat) (l0 : List Int) (a1 : ByteArray) (val : List Int) (w : World) (H : Calls Try.prog 25 #[.string a1, .slice A0 l0.length c0] w fun e w' => ∃ A n c', e = .returned (.slice (some A) n c') ∧ ownB w' w.heap.size (.slice (some A) n c') val ∧ Below w.heap.size w w') :
    Calls Try.prog 11 #[.slice A0 l0.length c0, .string a1] w fun e w' => ∃ v, e = .returned (.tuple #[v, .bool true]) ∧ ownB w' w.heap.size v val ∧ Below w.heap.size w w' := by
  have HD := Aside0.mk (gd_walk _ a1 w _ H (fun e w' h => by obtain ⟨_, _, _, h, _⟩ := h; exact ⟨_, h⟩))
  clear H
  have knil := fun (W : World) (A : Option Addr) (n c : Nat) => run_neq_slice_nil_any (P := Try.prog) W 27 5 A n c 0 0 Try.underlying27
  go_enter Try.func11, Try.ntmps11
  go_wp2_with fail
  refine HD.out.mono ?_
  rintro e w2 ⟨A, n, c, rfl, ho, hb⟩
  have HB := Aside0.mk hb
  have HO := Aside0.mk ho
  clear hb ho
  go_wp2_with fail
  go_ret2
  exact ⟨_, rfl, HO.out, HB.out⟩
theorem impl_HeaderGetR.calls (A0 : Option Addr) (c0 : Nat) (l0 : List Int) (a1 : ByteArray) (r1 : List Int) (r2 : Bool) (w : World) (hr0 : Kd.C (Kd.int .u8) w A0 l0.length l0) (hc0 : l0.length ≤ c0) (h : impl_HeaderGetR.f l0 a1 = some (r1, r2)) :
    Calls Try.prog 11 #[.slice A0 l0.length c0, .string a1] w fun e w' => ∃ v0_ : Value, e = .returned (.tuple #[v0_, .bool r2]) ∧ Kd.R (Kd.int .u8) 5 w' w.heap.size (fun _ => True) v0_ r1 ∧ Below w.heap.size w w' := by
  unfold impl_HeaderGetR.f at h
  split at h
  · rename_i hc
    obtain ⟨hk0, hks, hl0, hl⟩ := hc
    obtain ⟨ad, rfl, _⟩ := (Kd.reads_of_C (enc := Value.int .u8) (d := (0 : Int)) (h1 := fun _ => rfl) hr0).2.2 hl0
    obtain ⟨o, ho, ho2⟩ := Option.map_eq_some_iff.1 h
    injection ho2 with e1 e2
    unfold getL at ho
    split at ho
    · rename_i hn
      obtain rfl := Option.some.inj ho
      subst e1 e2
      refine (hg_none (some ad) c0 l0 a1 w (gh_none a1 hk0 hks ad c0 l0 w hr0 hc0 hl hl0 (fun j hj => hit_none hn j (by rw [bytesOf_length]; exact hj)))).mono ?_
      rintro e w' ⟨rfl, hb⟩
      exact ⟨_, rfl, Kd.R_nil _ _ _ _ _, hb⟩
    · rename_i i hi
      obtain ⟨h1, h2, h3⟩ := hit_some hi
      split at ho
      · rename_i hk
        split at ho
        · cases ho
        · rename_i s hs
          split at ho
          · cases ho
          · rename_i e0 he
            split at ho
            · rename_i hx
              obtain rfl := Option.some.inj ho
              subst e1 e2
              obtain ⟨s1, s2, s3⟩ := List.find?_range_eq_some.1 hs
              obtain ⟨t1, t2, t3⟩ := List.find?_range_eq_some.1 he
              simp only [Bool.and_eq_true, decide_eq_true_eq] at s1 t1
              refine (hg_some (some ad) c0 l0 a1 ((l0.drop s).take (e0 - s)) w (gh_some a1 hk0 hks ad c0 l0 w hr0 hc0 hl i h3 h2 ⟨hk.1, hk.2.1, hk.2.2.1, hk.2.2.2.1, hk.2.2.2.2⟩ s e0 ⟨s1.1, fun k k1 k2 => ?_, s1.2, t1.1, hx, t1.2.1, t1.2.2, fun k k1 k2 => ?_⟩)).mono ?_
              · have := s3 k k2
                rw [Bool.not_eq_true', Bool.and_eq_false_iff, decide_eq_false_iff_not, decide_eq_false_iff_not] at this
                rcases this with h | h
                · exact absurd k1 h
                · exact Decidable.of_not_not h
              · rintro ⟨k3, k4⟩
                have := t3 k k2
                rw [decide_eq_true k1, decide_eq_true k3, decide_eq_true k4] at this
                cases this
              · rintro e w' ⟨v, rfl, ho, hb⟩
                exact ⟨_, rfl, Kd.R_of_own ho (fun _ _ => trivial), hb⟩
            · cases ho
      · cases ho
  · cases h

end Go.Proofs.Ytmfblbjklmgncaa.HeadW
