/- WALKS: bytes masked in place. -/
import Derived.Test.YtchajidblfakiaaProg
import Derived.Below
import Derived.Deep.Draws
import Derived.Deep.AppendLies
import Derived.Maps.AppendAt
import Derived.OwnWalk
import Derived.Laws.BytesArg
import Derived.Laws.MakeOwn
import Derived.Laws.OwnMore
import Derived.Deep.OwnRows
import Derived.Tactics
import Derived.Lib.ConvBytes
import Derived.Laws.Slices
import Derived.WalkKit
import Derived.KernelRfl
import Derived.RowKit3
import Derived.Deep.LoopGhost
import Derived.Deep.QuietTactic
import Derived.BigQuiet
import Derived.WideLaws
import Derived.Deep.DeepCutAuto
import Derived.Deep.CutBlock
import Derived.Deep.RegionHeld3
import Derived.Laws.Rows
import Derived.Lib.AppendStr
import Derived.ArgAppend
import Derived.Laws.IdiomCopy
import Derived.OrdersHeld
import Derived.Laws.BitsLemmas
import Derived.RowKit
import Derived.Test.YtchajidblfakiaaWWords
import Derived.Test.YtchajidblfakiaaWLast
import Derived.Test.YtchajidblfakiaaWTab
import Derived.Test.YtchajidblfakiaaWFour
import Derived.Test.YtchajidblfakiaaWQPut
import Derived.Test.YtchajidblfakiaaWApart
import Derived.Test.YtchajidblfakiaaWArr
import Derived.Test.YtchajidblfakiaaWZeros
import Derived.Test.YtchajidblfakiaaWFoot
import Derived.Test.YtchajidblfakiaaWKept
import Derived.Test.YtchajidblfakiaaWShare
import Derived.Test.YtchajidblfakiaaWN
import Derived.Test.YtchajidblfakiaaWFootNe
import Derived.Test.YtchajidblfakiaaWAt
import Derived.Test.YtchajidblfakiaaWEqStruct
import Derived.Test.YtchajidblfakiaaWRepsOne
import Derived.Test.YtchajidblfakiaaWInv
import Derived.Test.YtchajidblfakiaaWInvWords
import Derived.Test.YtchajidblfakiaaWGuard
import Derived.Test.YtchajidblfakiaaWNEv
import Derived.Test.YtchajidblfakiaaWMore
import Derived.Test.YtchajidblfakiaaRoad
import Derived.Test.YtchajidblfakiaaRunes
import Derived.Test.YtchajidblfakiaaShelf
import Derived.Lib.EndianBits
import Derived.Stop.LaidErr
import Derived.RegionTactic
import Derived.StillTailTactics
import Derived.Laws.CopyRow
import Derived.Laws.CopyOwn
namespace Go.Proofs.Ytchajidblfakiaa.MaskW
open Go.RowKit Go.Proofs.YtchajidblfakiaaW.PrintWords Go.Proofs.YtchajidblfakiaaW.PrintLast Go.Proofs.YtchajidblfakiaaW.PrintMore
attribute [local go_sem] max2_int min2_int max_two min_two max_three min_three max_four min_four   -- for this text's walks alone
set_option linter.unusedVariables false
set_option linter.unusedSimpArgs false



open _root_.Go.Proofs.Ytchajidblfakiaa
def xr (x y : Int) : Int := bits .xor .u8 x y
def ksOf (k0 k1 k2 k3 : Int) (j : Nat) : Int := [k0, k1, k2, k3].getD j 0
def infoW (p k0 k1 k2 k3 : Int) : Array Value := #[.int .u64 0, .bool false, .bool false, .bool false, .bool false, .int .u8 p, .int .u8 k0, .int .u8 k1, .int .u8 k2, .int .u8 k3, .slice none 0 0, .int .i64 0, .int .u64 0]
/-- The row as far as the k-th byte masked. -/
def Masked (l : List Int) (ks : Nat → Int) (p0 : Nat) (cur0 cur : Array Value) (k : Nat) : Prop :=
  cur.size = cur0.size ∧ ∀ j, cur[j]? = if j < k then some (.int .u8 (xr (l.getD j 0) (ks ((p0 + j) % 4)))) else cur0[j]?
theorem info_cell {W : World} {B : Nat} {p k0 k1 k2 k3 : Int} (h : W.heap[B]? = some (.cells (infoW p k0 k1 k2 k3) 33 (0, 0))) (j : Nat) (hj : j < 4) : W.cell? ⟨B, 6 + j, none⟩ = some (.int .u8 (ksOf k0 k1 k2 k3 j)) := by
  rw [cell_of_row W B (6 + j) _ _ _ h]
  have : j = 0 ∨ j = 1 ∨ j = 2 ∨ j = 3 := by omega
  rcases this with rfl | rfl | rfl | rfl <;> rfl
theorem info_pos {W : World} {B : Nat} {p k0 k1 k2 k3 : Int} (h : W.heap[B]? = some (.cells (infoW p k0 k1 k2 k3) 33 (0, 0))) : W.cell? ⟨B, 5, none⟩ = some (.int .u8 p) := by
  rw [cell_of_row W B 5 _ _ _ h]
  rfl
theorem masked_step {l : List Int} {ks : Nat → Int} {p0 : Nat} {cur0 cur : Array Value} {k : Nat} (h : Masked l ks p0 cur0 cur k) (hk : k < cur0.size) (x y : Int) (hx : x = l.getD k 0) (hy : y = ks ((p0 + k) % 4)) : Masked l ks p0 cur0 (cur.setIfInBounds k (.int .u8 (xr x y))) (k + 1) := by
  subst hx hy
  refine ⟨by rw [Array.size_setIfInBounds]; exact h.1, fun j => ?_⟩
  by_cases e : j = k
  · subst e
    rw [Array.getElem?_setIfInBounds_self, if_pos (by rw [h.1]; exact hk), if_pos (by omega)]
  · rw [Array.getElem?_setIfInBounds_ne (fun e2 => e e2.symm), h.2 j]
    by_cases e3 : j < k
    · rw [if_pos e3, if_pos (by omega)]
    · rw [if_neg e3, if_neg (by omega)]
theorem and3 (q : Nat) (hq : q < 100000000) : bits .and .i64 (q : Int) 3 = ((q % 4 : Nat) : Int) := by
  have := bits_mask .i64 62 (by decide) (fun n h0 h1 => Road.wi64 n n rfl (by omega) (by omega)) 2 (by decide) (q : Int) (by omega) (by omega)
  rw [show (3 : Int) = 2 ^ 2 - 1 by decide, this]
  omega
set_option maxHeartbeats 8000000 in
set_option maxRecDepth 100000 in
theorem unmask_short (k0 k1 k2 k3 : Int) (p0 B G c N : Nat) (l : List Int) (cur0 : Array Value) (w : World) (hp : p0 < 256) (hn : l.length < 16) (hnc : l.length ≤ cur0.size) (hl : ∀ j, j < l.length → cur0[j]? = some (.int .u8 (l.getD j 0))) (hBG : B ≠ G) (hNB : N ≤ B) (hNG : N ≤ G)
    (hB : w.heap[B]? = some (.cells (infoW p0 k0 k1 k2 k3) 33 (0, 0))) (hG : w.heap[G]? = some (.cells cur0 5 (0, 0))) :
    Calls Try.prog 8 #[.pointer (some ⟨B, 0, none⟩), .slice (some ⟨G, 0, none⟩) l.length c] w fun e w' => e = .returned (.tuple #[]) ∧ ∃ cur, w'.heap[G]? = some (.cells cur 5 (0, 0)) ∧ Masked l (ksOf k0 k1 k2 k3) p0 cur0 cur l.length ∧ Below N w w' := by
  have hpos := info_pos hB
  have HB := Aside0.mk hB
  have HG := Aside0.mk hG
  have HL := Aside0.mk hl
  have HX := Aside0.mk (And.intro hBG (And.intro hNB hNG))
  have HC := Aside0.mk hnc
  have HP := Aside0.mk hp
  obtain ⟨n, hnn⟩ : ∃ n, n = l.length := ⟨_, rfl⟩
  rw [← hnn] at hn ⊢
  have HN := Aside0.mk hnn
  have c16 : decide ((n : Int) < 16) = true := decide_eq_true (by omega)
  have c16' : decide (n < 16) = true := decide_eq_true hn
  have HB0 := Aside0.mk (Below.refl N w)
  have HWP := Aside0.mk (show wrap64 (p0 : Int) = (p0 : Int) by unfold wrap64; omega)
  have HNN := Aside0.mk hn
  clear hB hG hl hBG hNB hNG hnc hp hnn hn
  go_enter Try.func8, Try.ntmps8
  go_wp2_with fail
  go_loopw [4, 5] (fun v4 v5 wr => ∃ (k q : Nat) (cur : Array Value), v4 = .int .i64 (q : Int) ∧ v5 = .int .i64 (k : Int) ∧ Aside0 (q = p0 + k ∧ k ≤ n) ∧ Aside0 (Masked l (ksOf k0 k1 k2 k3) p0 cur0 cur k) ∧ Aside0 (wr.heap[G]? = some (.cells cur 5 (0, 0))) ∧ Aside0 (wr.heap[B]? = some (.cells (infoW p0 k0 k1 k2 k3) 33 (0, 0))) ∧ Aside0 (Below N w wr)) (fun _ v5 _ => Road.leftOf n v5)
  case atStart =>
    exact ⟨0, p0, cur0, by rw [HWP.out], rfl, ⟨rfl, Nat.zero_le _⟩, ⟨rfl, fun j => by simp⟩, HG, HB, HB0⟩
  case round =>
    obtain ⟨k, q, cur, rfl, rfl, HQ, HM, HG', HB', HW⟩ := hrel
    rcases Nat.lt_or_ge k n with hk | hk
    · have ck : decide ((k : Int) < (n : Int)) = true := decide_eq_true (by omega)
      have ck' : decide (k < n) = true := decide_eq_true hk
      have ck2 := eq_true hk
      have cq := and3 q (by have := HQ.out; have := HP.out; have := HNN.out; omega)
      obtain ⟨j, hj⟩ : ∃ j, j = q % 4 := ⟨_, rfl⟩
      have hj4 : j < 4 := by omega
      have cj := eq_true hj4
      have cj2 := eq_true (show (j : Int) < 4 by omega)
      have cb := info_cell HB'.out j hj4
      rw [← hj] at cq
      have HJ := Aside0.mk hj
      obtain ⟨x, hx⟩ : ∃ x, x = l.getD k 0 := ⟨_, rfl⟩
      have cg : wr.cell? ⟨G, k, none⟩ = some (.int .u8 x) := by
        rw [cell_of_row wr G k _ _ _ HG'.out, HM.out.2 k, if_neg (by omega), HL.out k (by have := HN.out; omega), hx]
      obtain ⟨y, hy⟩ : ∃ y, y = ksOf k0 k1 k2 k3 j := ⟨_, rfl⟩
      rw [← hy] at cb
      have HXY := Aside0.mk (And.intro hx hy)
      have HKK := Aside0.mk hk
      clear hj hj4 hx hy hk
      go_wp2_with fail
      go_still_tail 13, (by kernel_rfl)
      have cfz : wr.frozen? ⟨G, k, none⟩ = false := by simp [World.frozen?, HG'.out]
      go_wp2_with fail
      go_roundw
      case rel =>
        have hk := HKK.out
        have hq := HQ.out
        have e1 : (wr.drew.setCell ⟨G, k, none⟩ (.int .u8 (xr x y))) = wr.drew.setRow G (cur.setIfInBounds k (.int .u8 (xr x y))) := setCell_eq_setRow wr.drew G k cur 5 (0, 0) _ HG'.out
        refine ⟨k + 1, q + 1, cur.setIfInBounds k (.int .u8 (xr x y)), ?_, ?_, ⟨by omega, by omega⟩, ⟨masked_step HM.out (by have := HC.out; have := HN.out; omega) x y HXY.out.1 (by rw [HXY.out.2, HJ.out, hq.1])⟩, ⟨?_⟩, ⟨?_⟩, ⟨?_⟩⟩
        · rw [Road.w64 ((q : Int) + 1) ((q + 1 : Nat) : Int) (by omega) (by omega) (by have := HP.out; have := HNN.out; omega)]
        · rw [Road.w64 ((k : Int) + 1) ((k + 1 : Nat) : Int) (by omega) (by omega) (by have := HNN.out; omega)]
        · show (wr.drew.setCell ⟨G, k, none⟩ (.int .u8 (xr x y))).heap[G]? = _
          rw [e1]
          exact setRow_heap _ G _ _ _ _ HG'.out
        · show (wr.drew.setCell ⟨G, k, none⟩ (.int .u8 (xr x y))).heap[B]? = _
          rw [e1, setRow_other _ G B _ HX.out.1]
          exact HB'.out
        · show Below N w (wr.drew.setCell ⟨G, k, none⟩ (.int .u8 (xr x y)))
          rw [e1]
          exact below_setRow (below_drew HW.out) HX.out.2.2 _
      case measure =>
        rw [Road.w64 ((k : Int) + 1) ((k + 1 : Nat) : Int) (by omega) (by omega) (by have := HKK.out; have := HNN.out; omega)]
        exact Road.leftOf_lt HKK.out
    · have hkn : k = n := by have := HQ.out; omega
      subst hkn
      have ck : decide ((k : Int) < (k : Int)) = false := decide_eq_false (by omega)
      have cq := and3 q (by have := HQ.out; have := HP.out; have := HNN.out; omega)
      have cfz : wr.frozen? ⟨B, 5, none⟩ = false := by simp [World.frozen?, HB'.out]
      have cps := info_pos HB'.out
      go_wp2_with fail
      refine bodyPost_ret (results_none rfl _ _ _) rfl ?_
      have e1 := setCell_eq_setRow wr B 5 _ 33 (0, 0) (.int .u8 ((q : Int) % 4)) HB'.out
      rw [e1]
      refine ⟨rfl, cur, ?_, HM.out, below_setRow HW.out HX.out.2.1 _⟩
      rw [setRow_other _ B G _ (fun e => HX.out.1 e.symm)]
      exact HG'.out
theorem beFrom_app (l : List UInt8) (b : UInt8) : ∀ acc, Lib.beFrom acc (l ++ [b]) = Lib.beFrom acc l * 256 + b.toNat := by
  induction l with
  | nil => intro acc; rfl
  | cons c l ih => intro acc; exact ih _
theorem le_rev : ∀ r : List UInt8, Lib.leBytes r.length (Lib.beNat r.reverse) = r
  | [] => rfl
  | b :: r => by
    have ih := le_rev r
    have h : Lib.beNat (b :: r).reverse = Lib.beNat r.reverse * 256 + b.toNat := by rw [List.reverse_cons]; exact beFrom_app _ _ _
    have hb : b.toNat < 256 := b.toNat_lt
    rw [List.length_cons, Lib.leBytes, h, show (Lib.beNat r.reverse * 256 + b.toNat) / 256 = Lib.beNat r.reverse by omega, ih, show (Lib.beNat r.reverse * 256 + b.toNat) % 256 = b.toNat by omega]
    congr 1
    apply UInt8.toNat_inj.1
    simp [Nat.toUInt8, UInt8.toNat_ofNat']
theorem be_back (l : List UInt8) : Lib.beBytes l.length (Lib.beNat l) = l := by
  have := le_rev l.reverse
  rw [List.length_reverse, List.reverse_reverse] at this
  rw [Lib.beBytes, this, List.reverse_reverse]
theorem xor256 (s t x y : Nat) (hx : x < 256) (hy : y < 256) : (s * 256 + x) ^^^ (t * 256 + y) = (s ^^^ t) * 256 + (x ^^^ y) := by
  have hxy : x ^^^ y < 2 ^ 8 := Nat.xor_lt_two_pow hx hy
  apply Nat.eq_of_testBit_eq
  intro i
  rw [Nat.testBit_xor, show s * 256 + x = 2 ^ 8 * s + x by omega, show t * 256 + y = 2 ^ 8 * t + y by omega, show (s ^^^ t) * 256 + (x ^^^ y) = 2 ^ 8 * (s ^^^ t) + (x ^^^ y) by omega]
  rw [Nat.testBit_two_pow_mul_add _ hx, Nat.testBit_two_pow_mul_add _ hy, Nat.testBit_two_pow_mul_add _ hxy]
  split
  · rw [Nat.testBit_xor]
  · rw [Nat.testBit_xor]
theorem beFrom_xor : ∀ (a b : List UInt8), a.length = b.length → ∀ s t, Lib.beFrom s a ^^^ Lib.beFrom t b = Lib.beFrom (s ^^^ t) (List.zipWith (fun x y => x ^^^ y) a b)
  | [], [], _, s, t => rfl
  | x :: a, y :: b, h, s, t => by
    have := beFrom_xor a b (by simpa using h) (s * 256 + x.toNat) (t * 256 + y.toNat)
    rw [xor256 _ _ _ _ x.toNat_lt y.toNat_lt] at this
    rw [Lib.beFrom, Lib.beFrom, this, List.zipWith_cons_cons, Lib.beFrom, UInt8.toNat_xor]
  | [], _ :: _, h, _, _ => by simp at h
  | _ :: _, [], h, _, _ => by simp at h
theorem beFrom_lt : ∀ (a : List UInt8) (s : Nat), Lib.beFrom s a < (s + 1) * 256 ^ a.length
  | [], s => by simp [Lib.beFrom]
  | x :: a, s => by
    have := beFrom_lt a (s * 256 + x.toNat)
    have hx := x.toNat_lt
    rw [Lib.beFrom, List.length_cons, Nat.pow_succ]
    refine Nat.lt_of_lt_of_le this ?_
    rw [Nat.mul_comm (256 ^ a.length) 256, ← Nat.mul_assoc]
    exact Nat.mul_le_mul_right _ (by omega)
theorem bits_xor_nat (k : IntKind) (j : Nat) (hj : j ≤ k.bits) (hk : ∀ n : Int, 0 ≤ n → n < 2 ^ j → k.wrap n = n) (a b : Nat) (ha : a < 2 ^ j) (hb : b < 2 ^ j) : bits .xor k a b = ((a ^^^ b : Nat) : Int) := by
  have hp : 2 ^ j ≤ 2 ^ k.bits := Nat.pow_le_pow_right (by decide) hj
  have ha' : a % 2 ^ k.bits = a := Nat.mod_eq_of_lt (Nat.lt_of_lt_of_le ha hp)
  have hb' : b % 2 ^ k.bits = b := Nat.mod_eq_of_lt (Nat.lt_of_lt_of_le hb hp)
  have cast : ∀ n : Nat, n < 2 ^ j → ((n : Nat) : Int) < 2 ^ j := fun n h => by exact_mod_cast h
  simp only [bits, BitVec.ofInt_natCast, BitVec.toNat_xor, BitVec.toNat_ofNat, ha', hb']
  exact hk _ (Int.natCast_nonneg _) (cast _ (Nat.xor_lt_two_pow ha hb))
theorem xr_byte {x y : Int} (hx : 0 ≤ x ∧ x ≤ 255) (hy : 0 ≤ y ∧ y ≤ 255) : xr x y = (((Lib.byteOf x ^^^ Lib.byteOf y).toNat : Nat) : Int) := by
  unfold xr
  have h1 := Lib.byteOf_toNat hx
  have h2 := Lib.byteOf_toNat hy
  conv => lhs; rw [← h1, ← h2]
  rw [bits_xor_nat .u8 8 (by decide) wraps_u8 _ _ (Lib.byteOf x).toNat_lt (Lib.byteOf y).toNat_lt, UInt8.toNat_xor]
/-- Eight bytes masked at once. -/
theorem eight (zs kz : List Int) (h1 : zs.length = 8) (h2 : kz.length = 8) (hz : ∀ z ∈ zs, 0 ≤ z ∧ z ≤ 255) (hk : ∀ z ∈ kz, 0 ≤ z ∧ z ≤ 255) :
    ∃ v : Nat, v < 18446744073709551616 ∧ bits .xor .u64 (Lib.beZ zs) (Lib.beZ kz) = (v : Int) ∧ Lib.byteCells (Lib.beBytes 8 v) = List.zipWith (fun x y => Value.int .u8 (xr x y)) zs kz := by
  have e1 := Lib.beNat_byteOf zs hz
  have e2 := Lib.beNat_byteOf kz hk
  have hl : (List.zipWith (fun x y => x ^^^ y) (zs.map Lib.byteOf) (kz.map Lib.byteOf)).length = 8 := by simp [h1, h2]
  have l1 := beFrom_lt (zs.map Lib.byteOf) 0
  have l2 := beFrom_lt (kz.map Lib.byteOf) 0
  have l3 := beFrom_lt (List.zipWith (fun x y => x ^^^ y) (zs.map Lib.byteOf) (kz.map Lib.byteOf)) 0
  rw [hl] at l3
  rw [List.length_map, h1] at l1
  rw [List.length_map, h2] at l2
  have e3 := beFrom_xor (zs.map Lib.byteOf) (kz.map Lib.byteOf) (by simp [h1, h2]) 0 0
  refine ⟨Lib.beNat (List.zipWith (fun x y => x ^^^ y) (zs.map Lib.byteOf) (kz.map Lib.byteOf)), by unfold Lib.beNat; omega, ?_, ?_⟩
  · rw [← e1, ← e2, bits_xor_nat .u64 64 (by decide) wraps_u64 _ _ (by unfold Lib.beNat; omega) (by unfold Lib.beNat; omega)]
    unfold Lib.beNat
    rw [e3, Nat.xor_self]
  · conv => lhs; rw [← hl]
    rw [be_back]
    unfold Lib.byteCells
    rw [List.map_zipWith, List.zipWith_map]
    clear e1 e2 hl l1 l2 l3 e3
    have h12 : zs.length = kz.length := by omega
    clear h1 h2
    induction zs generalizing kz with
    | nil => simp
    | cons z zs ih =>
      cases kz with
      | nil => simp
      | cons y kz =>
        rw [List.zipWith_cons_cons, List.zipWith_cons_cons, ih kz (fun a h => hz a (List.mem_cons_of_mem _ h)) (fun a h => hk a (List.mem_cons_of_mem _ h)) (by simpa using h12)]
        rw [xr_byte (hz z List.mem_cons_self) (hk y List.mem_cons_self)]
theorem load_bigEndian : ∀ w : World, (Instr.loadAt 37 (.pointer (some ⟨0, 0, none⟩))).run Try.prog w = .ok (.agg #[]) w := fun w => by kernel_rfl
theorem wf_u8 {z : Int} (h : 0 ≤ z ∧ z ≤ 255) : (Lit.int .u8 z).wf = true := by
  show (decide (0 ≤ z) && decide (z ≤ 255)) = true
  rw [decide_eq_true h.1, decide_eq_true h.2]
  rfl
theorem leftOf_lt8 {n i : Nat} {k : IntKind} (h : i < n) : Road.leftOf n (.int k ((i + 8 : Nat) : Int)) < Road.leftOf n (.int k (i : Int)) := by
  simp only [Road.leftOf, Int.toNat_natCast]
  omega
def keyZ (ks : Nat → Int) (p0 : Nat) : List Int := (List.range 8).map fun j => ks ((p0 + j) % 4)
theorem put8 (G i m c v : Nat) (cur : Array Value) (w : World) (hv : v < 18446744073709551616) (hm : 8 ≤ m) (hG : w.heap[G]? = some (.cells cur 5 (0, 0))) (hi : i + 8 ≤ cur.size) :
    Calls Try.prog 10 #[.agg #[], .slice (some ⟨G, i, none⟩) m c, .int .u64 v] w fun e w' => e = .returned (.tuple #[]) ∧
      (∃ cur', w'.heap[G]? = some (.cells cur' 5 (0, 0)) ∧ cur'.size = cur.size ∧ cur'.toList = cur.toList.take i ++ Lib.byteCells (Lib.beBytes 8 v) ++ cur.toList.drop (i + 8)) ∧ Below (min G w.heap.size) w w' ∧ ∀ k, k < w.heap.size → k ≠ G → w'.heap[k]? = w.heap[k]? := by
  have hlt : G < w.heap.size := (Array.getElem?_eq_some_iff.1 hG).1
  have hc : ∀ j, i + j < cur.size → ∃ x, w.cell? ⟨G, i + j, none⟩ = some x := fun j hj => ⟨cur[i + j], by rw [cell_of_row w G (i + j) _ _ _ hG]; exact Array.getElem?_eq_getElem hj⟩
  have hf : ∀ j, w.frozen? ⟨G, i + j, none⟩ = false := fun j => by simp [World.frozen?, hG]
  obtain ⟨x0, c0⟩ := hc 0 (by omega)
  obtain ⟨x1, c1⟩ := hc 1 (by omega)
  obtain ⟨x2, c2⟩ := hc 2 (by omega)
  obtain ⟨x3, c3⟩ := hc 3 (by omega)
  obtain ⟨x4, c4⟩ := hc 4 (by omega)
  obtain ⟨x5, c5⟩ := hc 5 (by omega)
  obtain ⟨x6, c6⟩ := hc 6 (by omega)
  obtain ⟨x7, c7⟩ := hc 7 (by omega)
  refine (Try.binary_BE_PutUint64 G i m c v hv x0 x1 x2 x3 x4 x5 x6 x7 w hm c0 c1 c2 c3 c4 c5 c6 c7 (hf 0) (hf 1) (hf 2) (hf 3) (hf 4) (hf 5) (hf 6) (hf 7)).mono ?_
  rintro e w' ⟨rfl, rfl⟩
  have hl8 : (Lib.byteCells (Lib.beBytes 8 v)).length = 8 := by
    unfold Lib.byteCells
    rw [List.length_map, Lib.beBytes_length]
  have hG2 : (w.alloc (.cells #[] 37)).heap[G]? = some (.cells cur 5 (0, 0)) := by rw [Below.heap_alloc _ _ _ hlt]; exact hG
  obtain ⟨cur', g1, g2, g3⟩ := setCells_row (Lib.byteCells (Lib.beBytes 8 v)) i _ cur hG2 (by rw [hl8]; exact hi)
  obtain ⟨s1, s2, s3, s4⟩ := setCells_same G (Lib.byteCells (Lib.beBytes 8 v)) i (w.alloc (.cells #[] 37))
  rw [hl8] at g3
  refine ⟨rfl, ⟨cur', g1, g2, g3⟩, ⟨s1, s2, s3, by rw [s4]; simp, fun k hk => ?_⟩, fun k hk hkG => ?_⟩
  · rw [setCells_far _ _ k (by omega), Below.heap_alloc _ _ _ (by omega)]
  · rw [setCells_far _ _ k hkG, Below.heap_alloc _ _ _ hk]
theorem masked_eight {l : List Int} {ks : Nat → Int} {p0 : Nat} {cur0 cur cur' : Array Value} {i : Nat} (h : Masked l ks p0 cur0 cur i) (hi8 : i % 8 = 0) (hi : i + 8 ≤ l.length) (hc : i + 8 ≤ cur0.size) (g2 : cur'.size = cur.size)
    (g3 : cur'.toList = cur.toList.take i ++ List.zipWith (fun x y => Value.int .u8 (xr x y)) ((l.drop i).take 8) (keyZ ks p0) ++ cur.toList.drop (i + 8)) : Masked l ks p0 cur0 cur' (i + 8) := by
  have hlz : (List.zipWith (fun x y => Value.int .u8 (xr x y)) ((l.drop i).take 8) (keyZ ks p0)).length = 8 := by
    rw [List.length_zipWith, List.length_take, List.length_drop]
    simp [keyZ]
    omega
  have hlt : (cur.toList.take i).length = i := by
    rw [List.length_take, Array.length_toList, h.1]
    omega
  refine ⟨g2.trans h.1, fun j => ?_⟩
  rw [← Array.getElem?_toList, g3, List.append_assoc]
  rcases Nat.lt_or_ge j i with h1 | h1
  · rw [List.getElem?_append_left (by omega), List.getElem?_take_of_lt h1, Array.getElem?_toList, h.2 j, if_pos h1, if_pos (by omega)]
  · rw [List.getElem?_append_right (by omega), hlt]
    rcases Nat.lt_or_ge j (i + 8) with h2 | h2
    · rw [if_pos h2, List.getElem?_append_left (by omega), List.getElem?_zipWith, List.getElem?_take_of_lt (by omega), List.getElem?_drop, show i + (j - i) = j by omega, List.getElem?_eq_getElem (show j < l.length by omega)]
      have hk : (keyZ ks p0)[j - i]? = some (ks ((p0 + j) % 4)) := by
        have : (p0 + (j - i)) % 4 = (p0 + j) % 4 := by omega
        simp [keyZ, show j - i < 8 by omega, this]
      rw [hk, List.getD_eq_getElem?_getD, List.getElem?_eq_getElem (show j < l.length by omega)]
      rfl
    · rw [if_neg (by omega), List.getElem?_append_right (by omega), hlz, List.getElem?_drop, show i + 8 + (j - i - 8) = j by omega, Array.getElem?_toList, h.2 j, if_neg (by omega)]
set_option maxHeartbeats 8000000 in
set_option maxRecDepth 100000 in
theorem unmask_long (k0 k1 k2 k3 : Int) (p0 B G c N : Nat) (l : List Int) (cur0 : Array Value) (w : World) (hp : p0 < 256) (hn : 16 ≤ l.length) (hnM : l.length ≤ 1000000) (hnl : l.length ≤ c) (hnc : c ≤ cur0.size) (hl : ∀ j, j < l.length → cur0[j]? = some (.int .u8 (l.getD j 0))) (hbl : ∀ z ∈ l, 0 ≤ z ∧ z ≤ 255) (hks : ∀ j, 0 ≤ ksOf k0 k1 k2 k3 j ∧ ksOf k0 k1 k2 k3 j ≤ 255) (hBG : B ≠ G) (hNB : N ≤ B) (hNG : N ≤ G)
    (hB : w.heap[B]? = some (.cells (infoW p0 k0 k1 k2 k3) 33 (0, 0))) (hG : w.heap[G]? = some (.cells cur0 5 (0, 0))) :
    Calls Try.prog 8 #[.pointer (some ⟨B, 0, none⟩), .slice (some ⟨G, 0, none⟩) l.length c] w fun e w' => e = .returned (.tuple #[]) ∧ ∃ cur, w'.heap[G]? = some (.cells cur 5 (0, 0)) ∧ Masked l (ksOf k0 k1 k2 k3) p0 cur0 cur l.length ∧ Below N w w' := by
  have hpos := info_pos hB
  have hsB : B < w.heap.size := (Array.getElem?_eq_some_iff.1 hB).1
  have hsG : G < w.heap.size := (Array.getElem?_eq_some_iff.1 hG).1
  have HB := Aside0.mk hB
  have HG := Aside0.mk hG
  have HL := Aside0.mk hl
  have HX := Aside0.mk (And.intro hBG (And.intro hNB hNG))
  have HS := Aside0.mk (And.intro hsB hsG)
  have HC := Aside0.mk hnc
  have HP := Aside0.mk hp
  have HBL := Aside0.mk hbl
  have HKS := Aside0.mk hks
  obtain ⟨n, hnn⟩ : ∃ n, n = l.length := ⟨_, rfl⟩
  rw [← hnn] at hn hnM hnl ⊢
  have HN := Aside0.mk hnn
  have c16 : decide ((n : Int) < 16) = false := decide_eq_false (by omega)
  have c16' : decide (n < 16) = false := decide_eq_false (by omega)
  have HB0 := Aside0.mk (Below.refl N w)
  have HWP := Aside0.mk (show wrap64 (p0 : Int) = (p0 : Int) by unfold wrap64; omega)
  have HNN := Aside0.mk (And.intro hn (And.intro hnM hnl))
  clear hB hG hl hBG hNB hNG hnc hp hnn hn hnM hnl hbl hks hsB hsG
  go_enter Try.func8, Try.ntmps8
  go_wp2_with fail
  go_loopw [7] (fun v7 wr => ∃ (k : Nat) (kc : Array Value), v7 = .int .i64 (k : Int) ∧ Aside0 (k ≤ 8) ∧ Aside0 (kc.size = 8 ∧ ∀ j, j < k → kc[j]? = some (.int .u8 (ksOf k0 k1 k2 k3 ((p0 + j) % 4)))) ∧ Aside0 (wr.heap[w.heap.size]? = some (.cells kc 35 (0, 0))) ∧ Aside0 (wr.heap[G]? = some (.cells cur0 5 (0, 0))) ∧ Aside0 (wr.heap[B]? = some (.cells (infoW p0 k0 k1 k2 k3) 33 (0, 0))) ∧ Aside0 (Below N w wr)) (fun v7 _ => Road.leftOf 8 v7)
  case atStart =>
    refine ⟨0, _, rfl, ⟨by omega⟩, ⟨by rfl, fun j hj => by omega⟩, ⟨heap_alloc_new w _⟩, ⟨?_⟩, ⟨?_⟩, ⟨Below.alloc HB0.out (Nat.le_trans HX.out.2.2 (Nat.le_of_lt HS.out.2)) _⟩⟩
    · rw [Below.heap_alloc _ _ _ HS.out.2]; exact HG.out
    · rw [Below.heap_alloc _ _ _ HS.out.1]; exact HB.out
  case round =>
    obtain ⟨k, kc, rfl, HK8, HKC, HKB, HG', HB', HW⟩ := hrel
    rcases Nat.lt_or_ge k 8 with hk | hk
    · have ck : decide ((k : Int) < 8) = true := decide_eq_true (by omega)
      have ck' : decide (k < 8) = true := decide_eq_true hk
      have ck2 := eq_true hk
      have ck3 := eq_true (show (k : Int) < 8 by omega)
      obtain ⟨q, hq⟩ : ∃ q, q = p0 + k := ⟨_, rfl⟩
      have cs : wrap64 (wrap64 (p0 : Int) + (k : Int)) = (q : Int) := by
        rw [HWP.out]
        exact Road.w64 _ _ (by omega) (by omega) (by have := HP.out; omega)
      have cq := and3 q (by have := HP.out; omega)
      obtain ⟨j, hj⟩ : ∃ j, j = q % 4 := ⟨_, rfl⟩
      have hj4 : j < 4 := by omega
      have cj := eq_true hj4
      have cj2 := eq_true (show (j : Int) < 4 by omega)
      have cb := info_cell HB'.out j hj4
      rw [← hj] at cq
      have HJ := Aside0.mk hj
      have HQQ := Aside0.mk hq
      have HKK := Aside0.mk hk
      obtain ⟨y, hy⟩ : ∃ y, y = ksOf k0 k1 k2 k3 j := ⟨_, rfl⟩
      rw [← hy] at cb
      have HY := Aside0.mk hy
      have cfz : wr.frozen? ⟨w.heap.size, k, none⟩ = false := by simp [World.frozen?, HKB.out]
      obtain ⟨old, hold⟩ : ∃ old, wr.cell? ⟨w.heap.size, k, none⟩ = some old := by
        rw [cell_of_row wr w.heap.size k _ _ _ HKB.out]
        exact ⟨kc[k]'(by rw [HKC.out.1]; exact hk), Array.getElem?_eq_getElem _⟩
      clear hj hj4 hy hk hq
      go_wp2_with fail
      go_roundw
      case rel =>
        have e1 := setCell_eq_setRow wr w.heap.size k kc 35 (0, 0) (.int .u8 y) HKB.out
        have hGK : G ≠ w.heap.size := Nat.ne_of_lt HS.out.2
        have hBK : B ≠ w.heap.size := Nat.ne_of_lt HS.out.1
        refine ⟨k + 1, kc.setIfInBounds k (.int .u8 y), ?_, ⟨HKK.out⟩, ⟨by rw [Array.size_setIfInBounds]; exact HKC.out.1, fun j hj => ?_⟩, ⟨?_⟩, ⟨?_⟩, ⟨?_⟩, ⟨?_⟩⟩
        · rw [Road.w64 ((k : Int) + 1) ((k + 1 : Nat) : Int) (by omega) (by omega) (by have := HKK.out; omega)]
        · by_cases e : j = k
          · subst e
            rw [Array.getElem?_setIfInBounds_self, if_pos (by rw [HKC.out.1]; exact HKK.out), HY.out, HJ.out, HQQ.out]
          · rw [Array.getElem?_setIfInBounds_ne (fun e2 => e e2.symm), HKC.out.2 j (by omega)]
        · rw [e1]; exact setRow_heap _ _ _ _ _ _ HKB.out
        · rw [e1, setRow_other _ _ _ _ hGK]; exact HG'.out
        · rw [e1, setRow_other _ _ _ _ hBK]; exact HB'.out
        · rw [e1]; exact below_setRow HW.out (Nat.le_trans HX.out.2.2 (Nat.le_of_lt HS.out.2)) _
      case measure =>
        rw [Road.w64 ((k : Int) + 1) ((k + 1 : Nat) : Int) (by omega) (by omega) (by have := HKK.out; omega)]
        exact Road.leftOf_lt HKK.out
    · obtain rfl : k = 8 := by have := HK8.out; omega
      have hkz : ∀ i, i < (keyZ (ksOf k0 k1 k2 k3) p0).length → wr.cell? ((⟨w.heap.size, 0, none⟩ : Addr).add i) = some (.int .u8 ((keyZ (ksOf k0 k1 k2 k3) p0).getD i 0)) := by
        intro i hi
        have hi8 : i < 8 := by simpa [keyZ] using hi
        rw [add_plain, cell_of_row wr w.heap.size i _ _ _ HKB.out, HKC.out.2 i hi8]
        simp [keyZ, List.getD_eq_getElem?_getD, hi8]
      have hkw : ∀ z ∈ keyZ (ksOf k0 k1 k2 k3) p0, 0 ≤ z ∧ z ≤ 255 := by
        intro z hz
        obtain ⟨j, _, rfl⟩ := List.mem_map.1 hz
        exact HKS.out _
      have HKZ := Aside0.mk hkz
      have HKW := Aside0.mk hkw
      have hld := load_bigEndian
      clear hkz hkw hk
      go_wp2_with fail
      go_still_tail 2, (by kernel_rfl)
      go_wp2_with fail
      refine (Try.binary_BE_Uint64_z ⟨w.heap.size, 0, none⟩ 8 8 (keyZ (ksOf k0 k1 k2 k3) p0) wr.drew (by decide) (by simp [keyZ]) HKZ.out (fun z hz => wf_u8 (HKW.out z hz))).mono ?_
      rintro e w3 ⟨rfl, hb3⟩
      have hG3 : w3.heap[G]? = some (.cells cur0 5 (0, 0)) := (hb3.block G (Array.getElem?_eq_some_iff.1 HG'.out).1).trans HG'.out
      have hB3 : w3.heap[B]? = some (.cells (infoW p0 k0 k1 k2 k3) 33 (0, 0)) := (hb3.block B (Array.getElem?_eq_some_iff.1 HB'.out).1).trans HB'.out
      have HW3 := Aside0.mk (below_then (below_drew HW.out) (Nat.le_trans HX.out.2.2 (Nat.le_of_lt (Array.getElem?_eq_some_iff.1 HG'.out).1)) hb3)
      have HG3 := Aside0.mk hG3
      have HB3 := Aside0.mk hB3
      obtain ⟨km, hkm⟩ : ∃ km, km = Lib.beZ (keyZ (ksOf k0 k1 k2 k3) p0) := ⟨_, rfl⟩
      rw [List.take_of_length_le (show (keyZ (ksOf k0 k1 k2 k3) p0).length ≤ 8 by simp [keyZ]), ← hkm]
      have HKM := Aside0.mk hkm
      clear hG3 hB3 hb3 hkm HG' HB' HW HKB
      go_wp2_with fail
      obtain ⟨n8, hn8⟩ : ∃ n8 : Nat, n8 = n / 8 * 8 := ⟨_, rfl⟩
      have e8 : wrap64 (wrap64 ((n : Int) / 8) * 8) = (n8 : Int) := by
        have := HNN.out.2.1
        rw [Road.w64 ((n : Int) / 8) ((n / 8 : Nat) : Int) (by omega) (by omega) (by omega)]
        exact Road.w64 _ _ (by omega) (by omega) (by omega)
      rw [e8, HWP.out]
      have HN8 := Aside0.mk hn8
      clear hn8 e8
      go_loopw [10, 11] (fun v10 v11 wr => ∃ (i : Nat) (cur : Array Value), v10 = .int .i64 (i : Int) ∧ Aside0 (i % 8 = 0 ∧ i ≤ n8) ∧ Aside0 (Masked l (ksOf k0 k1 k2 k3) p0 cur0 cur i) ∧ Aside0 (wr.heap[G]? = some (.cells cur 5 (0, 0))) ∧ Aside0 (wr.heap[B]? = some (.cells (infoW p0 k0 k1 k2 k3) 33 (0, 0))) ∧ Aside0 (Below N w wr)) (fun v10 _ _ => Road.leftOf n8 v10)
      case atStart =>
        exact ⟨0, cur0, rfl, ⟨rfl, Nat.zero_le _⟩, ⟨rfl, fun j => by simp⟩, HG3, HB3, HW3⟩
      case round =>
        clear HG3 HB3 HW3
        obtain ⟨i, cur, rfl, HI, HM, HG', HB', HW⟩ := hrel
        rcases Nat.lt_or_ge i n8 with hi | hi
        · obtain ⟨i8, hi8⟩ : ∃ i8 : Nat, i8 = i + 8 := ⟨_, rfl⟩
          have ci : decide ((i : Int) < (n8 : Int)) = true := decide_eq_true (by omega)
          have ci' : decide (i < n8) = true := decide_eq_true hi
          have hi8c : i8 ≤ n := by have := HI.out; have := HN8.out; omega
          have hcc := HNN.out.2.2
          have q1 := eq_true (show i ≤ i8 by omega)
          have q1' := eq_true (show (i : Int) ≤ (i8 : Int) by omega)
          have q2 := eq_true (show i8 ≤ c by omega)
          have q2' := eq_true (show (i8 : Int) ≤ (c : Int) by omega)
          have q3 := eq_true (show (0 : Int) ≤ (i : Int) by omega)
          have q4 : ¬ (c - i = 0) := by omega
          have q5 : (i8 - i) = 8 := by omega
          have HII := Aside0.mk (And.intro hi (And.intro hi8 hi8c))
          have cs : IntKind.i64.wrap ((i : Int) + 8) = (i8 : Int) := by
            have := HNN.out.2.1
            exact Road.wi64 _ _ (by omega) (by omega) (by omega)
          have cs2 : wrap64 ((i : Int) + 8) = (i8 : Int) := by
            have := HNN.out.2.1
            exact Road.w64 _ _ (by omega) (by omega) (by omega)
          clear hi hi8 hi8c hcc
          go_wp2_with fail
          go_still_tail 6, (by kernel_rfl)
          go_wp2_with fail
          have hzl : ((l.drop i).take 8).length = 8 := by
            rw [List.length_take, List.length_drop]
            have := HII.out.2.1
            have := HII.out.2.2
            have := HN.out
            omega
          have hcell : ∀ j, j < ((l.drop i).take 8).length → wr.drew.cell? ((⟨G, i, none⟩ : Addr).add j) = some (.int .u8 (((l.drop i).take 8).getD j 0)) := by
            intro j hj
            rw [hzl] at hj
            have hji : i + j < l.length := by
              have := HII.out.2.1
              have := HII.out.2.2
              have := HN.out
              omega
            rw [add_at]
            show wr.cell? ⟨G, i + j, none⟩ = _
            rw [cell_of_row wr G (i + j) _ _ _ HG'.out, HM.out.2 (i + j), if_neg (by omega), HL.out _ hji]
            rw [List.getD_eq_getElem?_getD, List.getD_eq_getElem?_getD, List.getElem?_take_of_lt hj, List.getElem?_drop]
          have hzb : ∀ z ∈ (l.drop i).take 8, 0 ≤ z ∧ z ≤ 255 := fun z hz => HBL.out z (List.mem_of_mem_drop (List.mem_of_mem_take hz))
          refine (Try.binary_BE_Uint64_z ⟨G, i, none⟩ 8 (c - i) ((l.drop i).take 8) wr.drew (by decide) (by omega) hcell (fun z hz => wf_u8 (hzb z hz))).mono ?_
          rintro e w4 ⟨rfl, hb4⟩
          rw [List.take_of_length_le (Nat.le_of_eq hzl)]
          have hG4 : w4.heap[G]? = some (.cells cur 5 (0, 0)) := (hb4.block G (Array.getElem?_eq_some_iff.1 HG'.out).1).trans HG'.out
          have hB4 : w4.heap[B]? = some (.cells (infoW p0 k0 k1 k2 k3) 33 (0, 0)) := (hb4.block B (Array.getElem?_eq_some_iff.1 HB'.out).1).trans HB'.out
          have HW4 := Aside0.mk (below_then (below_drew HW.out) (Nat.le_trans HX.out.2.2 (Nat.le_of_lt (Array.getElem?_eq_some_iff.1 HG'.out).1)) hb4)
          have HG4 := Aside0.mk hG4
          have HB4 := Aside0.mk hB4
          obtain ⟨v, hv1, hv2, hv3⟩ := eight ((l.drop i).take 8) (keyZ (ksOf k0 k1 k2 k3) p0) hzl (by simp [keyZ]) hzb HKW.out
          rw [← HKM.out] at hv2
          obtain ⟨X, hX⟩ : ∃ X, X = Lib.beZ ((l.drop i).take 8) := ⟨_, rfl⟩
          rw [← hX] at hv2 ⊢
          have HV := Aside0.mk (And.intro hv1 hv3)
          have q6 := eq_true (show (i : Int) ≤ (n : Int) by have := HII.out.2.1; have := HII.out.2.2; omega)
          have q6' := eq_true (show i ≤ n by have := HII.out.2.1; have := HII.out.2.2; omega)
          have q7 := eq_true (show n ≤ c from HNN.out.2.2)
          have q7' := eq_true (show (n : Int) ≤ (c : Int) by have := HNN.out.2.2; omega)
          clear hG4 hB4 hb4 hX hv1 hv3 hzl hcell hzb HG' HB' HW
          go_wp2_with fail
          go_still_tail 5, (by kernel_rfl)
          go_wp2_with fail
          refine (put8 G i (n - i) (c - i) v cur w4.drew HV.out.1 (by have := HII.out.2.1; have := HII.out.2.2; omega) HG4.out (by rw [HM.out.1]; have := HII.out.2.1; have := HII.out.2.2; have := HNN.out.2.2; have := HC.out; omega)).mono ?_
          rintro e w5 ⟨rfl, ⟨cur', g1, g2, g3⟩, hb5, hoth⟩
          rw [HV.out.2] at g3
          have HG5 := Aside0.mk g1
          have HM5 := Aside0.mk (masked_eight HM.out HI.out.1 (by have := HII.out.2.1; have := HII.out.2.2; have := HN.out; omega) (by have := HII.out.2.1; have := HII.out.2.2; have := HNN.out.2.2; have := HC.out; omega) g2 g3)
          have HB5 := Aside0.mk ((hoth B (Array.getElem?_eq_some_iff.1 HB4.out).1 HX.out.1).trans HB4.out)
          have HW5 := Aside0.mk ((below_drew HW4.out).trans (hb5.mono (show N ≤ min G w4.drew.heap.size by
            have h1 := HX.out.2.2
            have h2 := (Array.getElem?_eq_some_iff.1 HG4.out).1
            have h3 : w4.drew.heap.size = w4.heap.size := rfl
            omega)))
          clear g1 g2 g3 hb5 hoth HG4 HB4 HW4
          go_wp2_with fail
          go_roundw
          case rel => exact ⟨i + 8, cur', by rw [HII.out.2.1], ⟨by have := HI.out; have := HII.out; have := HN8.out; omega⟩, HM5, HG5, HB5, HW5⟩
          case measure =>
            rw [HII.out.2.1]
            exact leftOf_lt8 HII.out.1
        · obtain rfl : i = n8 := by have := HI.out; omega
          have ci : decide ((i : Int) < (i : Int)) = false := decide_eq_false (by omega)
          have hin : i ≤ n := by have := HN8.out; omega
          have hcc := HNN.out.2.2
          have q3 := eq_true (show (0 : Int) ≤ (i : Int) by omega)
          have q6 := eq_true (show (i : Int) ≤ (n : Int) by omega)
          have q6' := eq_true (show i ≤ n by omega)
          have q7 := eq_true (show n ≤ c from hcc)
          have q7' := eq_true (show (n : Int) ≤ (c : Int) by omega)
          obtain ⟨m, hm⟩ : ∃ m, m = n - i := ⟨_, rfl⟩
          have HMM := Aside0.mk (And.intro hm (show i + m = n by omega))
          by_cases hci : c = i
          · have hm0 : n = i := by omega
            have HM0 := Aside0.mk hm0
            have cps := info_pos HB'.out
            have cfz : wr.frozen? ⟨B, 5, none⟩ = false := by simp [World.frozen?, HB'.out]
            have cq := and3 p0 (by have := HP.out; omega)
            have hfin := HM.out
            rw [← hm0] at hfin
            have HF := Aside0.mk hfin
            have z0 : n - i = 0 := by omega
            have q9 := eq_true hci
            clear hi hin hcc hm hfin hm0 hci
            go_wp2_with fail
            refine wp_loop_rounds 1 ?_
            rw [rounds_succ]
            go_wp2_with fail
            go_end0
            have e1 := setCell_eq_setRow wr B 5 _ 33 (0, 0) (.int .u8 ((p0 : Int) % 4)) HB'.out
            rw [e1]
            refine ⟨rfl, cur, ?_, HF.out, below_setRow HW.out HX.out.2.1 _⟩
            rw [setRow_other _ B G _ (fun e => HX.out.1 e.symm)]
            exact HG'.out
          · have q9 := eq_false hci
            clear hi hin hcc hci
            go_wp2_with fail
            rw [← hm]
            clear hm
            go_loopw [4, 12] (fun v4 v12 wr => ∃ (k q : Nat) (cur : Array Value), v4 = .int .i64 (q : Int) ∧ v12 = .int .i64 (k : Int) ∧ Aside0 (q = p0 + k ∧ k ≤ m) ∧ Aside0 (Masked l (ksOf k0 k1 k2 k3) p0 cur0 cur (i + k)) ∧ Aside0 (wr.heap[G]? = some (.cells cur 5 (0, 0))) ∧ Aside0 (wr.heap[B]? = some (.cells (infoW p0 k0 k1 k2 k3) 33 (0, 0))) ∧ Aside0 (Below N w wr)) (fun _ v12 _ => Road.leftOf m v12)
            case atStart => exact ⟨0, p0, cur, rfl, rfl, ⟨rfl, Nat.zero_le _⟩, HM, HG', HB', HW⟩
            case round =>
              clear HM HG' HB' HW
              obtain ⟨k, q, cur, rfl, rfl, HQ, HM, HG', HB', HW⟩ := hrel
              rcases Nat.lt_or_ge k m with hk | hk
              · have ck : decide ((k : Int) < (m : Int)) = true := decide_eq_true (by omega)
                have ck' : decide (k < m) = true := decide_eq_true hk
                have ck2 := eq_true hk
                have cq := and3 q (by have := HQ.out; have := HP.out; have := HNN.out; have := HMM.out; omega)
                obtain ⟨j, hj⟩ : ∃ j, j = q % 4 := ⟨_, rfl⟩
                have hj4 : j < 4 := by omega
                have cj := eq_true hj4
                have cj2 := eq_true (show (j : Int) < 4 by omega)
                have cb := info_cell HB'.out j hj4
                rw [← hj] at cq
                have HJ := Aside0.mk hj
                obtain ⟨x, hx⟩ : ∃ x, x = l.getD (i + k) 0 := ⟨_, rfl⟩
                have cg : wr.cell? ⟨G, i + k, none⟩ = some (.int .u8 x) := by
                  rw [cell_of_row wr G (i + k) _ _ _ HG'.out, HM.out.2 (i + k), if_neg (by omega), HL.out (i + k) (by have := HN.out; have := HMM.out; omega), hx]
                obtain ⟨y, hy⟩ : ∃ y, y = ksOf k0 k1 k2 k3 j := ⟨_, rfl⟩
                rw [← hy] at cb
                have HXY := Aside0.mk (And.intro hx hy)
                have HKK := Aside0.mk hk
                have cfz : wr.frozen? ⟨G, i + k, none⟩ = false := by simp [World.frozen?, HG'.out]
                clear hj hj4 hx hy hk
                go_wp2_with fail
                go_still_tail 13, (by kernel_rfl)
                go_wp2_with fail
                go_roundw
                case rel =>
                  have hk := HKK.out
                  have hq := HQ.out
                  have hmm := HMM.out
                  have e1 : (wr.drew.setCell ⟨G, i + k, none⟩ (.int .u8 (xr x y))) = wr.drew.setRow G (cur.setIfInBounds (i + k) (.int .u8 (xr x y))) := setCell_eq_setRow wr.drew G (i + k) cur 5 (0, 0) _ HG'.out
                  refine ⟨k + 1, q + 1, cur.setIfInBounds (i + k) (.int .u8 (xr x y)), ?_, ?_, ⟨by omega, by omega⟩, ⟨masked_step HM.out (by have := HC.out; have := HNN.out.2.2; omega) x y HXY.out.1 ?_⟩, ⟨?_⟩, ⟨?_⟩, ⟨?_⟩⟩
                  · rw [Road.w64 ((q : Int) + 1) ((q + 1 : Nat) : Int) (by omega) (by omega) (by have := HP.out; have := HNN.out; omega)]
                  · rw [Road.w64 ((k : Int) + 1) ((k + 1 : Nat) : Int) (by omega) (by omega) (by have := HNN.out; omega)]
                  · rw [HXY.out.2, HJ.out, hq.1]
                    have h8 := HI.out.1
                    rw [show (p0 + (i + k)) % 4 = (p0 + k) % 4 by omega]
                  · show (wr.drew.setCell ⟨G, i + k, none⟩ (.int .u8 (xr x y))).heap[G]? = _
                    rw [e1]
                    exact setRow_heap _ G _ _ _ _ HG'.out
                  · show (wr.drew.setCell ⟨G, i + k, none⟩ (.int .u8 (xr x y))).heap[B]? = _
                    rw [e1, setRow_other _ G B _ HX.out.1]
                    exact HB'.out
                  · show Below N w (wr.drew.setCell ⟨G, i + k, none⟩ (.int .u8 (xr x y)))
                    rw [e1]
                    exact below_setRow (below_drew HW.out) HX.out.2.2 _
                case measure =>
                  rw [Road.w64 ((k : Int) + 1) ((k + 1 : Nat) : Int) (by omega) (by omega) (by have := HKK.out; have := HNN.out; have := HMM.out; omega)]
                  exact Road.leftOf_lt HKK.out
              · obtain rfl : k = m := by have := HQ.out; omega
                have ck : decide ((k : Int) < (k : Int)) = false := decide_eq_false (by omega)
                have cq := and3 q (by have := HQ.out; have := HP.out; have := HNN.out; have := HMM.out; omega)
                have cfz : wr.frozen? ⟨B, 5, none⟩ = false := by simp [World.frozen?, HB'.out]
                have cps := info_pos HB'.out
                have hfin := HM.out
                rw [HMM.out.2] at hfin
                have HF := Aside0.mk hfin
                clear hfin hk
                go_wp2_with fail
                go_end0
                have e1 := setCell_eq_setRow wr B 5 _ 33 (0, 0) (.int .u8 ((q : Int) % 4)) HB'.out
                rw [e1]
                refine ⟨rfl, cur, ?_, HF.out, below_setRow HW.out HX.out.2.1 _⟩
                rw [setRow_other _ B G _ (fun e => HX.out.1 e.symm)]
                exact HG'.out
def maskL (ks : Nat → Int) (p : Nat) (l : List Int) : List Int := (List.range l.length).map fun j => xr (l.getD j 0) (ks ((p + j) % 4))
theorem maskL_len (ks : Nat → Int) (p : Nat) (l : List Int) : (maskL ks p l).length = l.length := by simp [maskL]
def encB (l : List Int) : List Value := encs (Value.int .u8) l
set_option maxHeartbeats 8000000 in
set_option maxRecDepth 100000 in
theorem unmask_nil (k0 k1 k2 k3 : Int) (p0 B N : Nat) (w : World) (hp : p0 < 256) (hNB : N ≤ B)
    (hB : w.heap[B]? = some (.cells (infoW p0 k0 k1 k2 k3) 33 (0, 0))) :
    Calls Try.prog 8 #[.pointer (some ⟨B, 0, none⟩), .slice none 0 0] w fun e w' => e = .returned (.tuple #[]) ∧ Below N w w' := by
  have hpos := info_pos hB
  have HB := Aside0.mk hB
  have HX := Aside0.mk hNB
  have HB0 := Aside0.mk (Below.refl N w)
  have HWP := Aside0.mk (show wrap64 (p0 : Int) = (p0 : Int) by unfold wrap64; omega)
  have cfz : w.frozen? ⟨B, 5, none⟩ = false := by simp [World.frozen?, hB]
  have cq := and3 p0 (by omega)
  clear hB hNB
  go_enter Try.func8, Try.ntmps8
  go_wp2_with fail
  try rw [HWP.out]
  refine wp_loop_rounds 1 ?_
  rw [rounds_succ]
  go_wp2_with fail
  refine bodyPost_ret (results_none rfl _ _ _) rfl ?_
  have e1 := setCell_eq_setRow w B 5 _ 33 (0, 0) (.int .u8 ((p0 : Int) % 4)) HB.out
  rw [e1]
  exact ⟨rfl, below_setRow HB0.out HX.out _⟩
theorem unmask_all (k0 k1 k2 k3 : Int) (p0 B N : Nat) (v : Value) (l : List Int) (w : World) (hp : p0 < 256) (hnM : l.length ≤ 1000000) (hbl : ∀ z ∈ l, 0 ≤ z ∧ z ≤ 255) (hks : ∀ j, 0 ≤ ksOf k0 k1 k2 k3 j ∧ ksOf k0 k1 k2 k3 j ≤ 255) (hBv : v.ownBlock ≠ some B) (hNB : N ≤ B)
    (hB : w.heap[B]? = some (.cells (infoW p0 k0 k1 k2 k3) 33 (0, 0))) (ho : w.ownsRow N 5 1 v l.length (encB l)) :
    Calls Try.prog 8 #[.pointer (some ⟨B, 0, none⟩), v] w fun e w' => e = .returned (.tuple #[]) ∧ w'.ownsRow N 5 1 v l.length (encB (maskL (ksOf k0 k1 k2 k3) p0 l)) ∧ Below N w w' := by
  rcases ho.2 with ⟨rfl, h0⟩ | ⟨G, cap, cur0, rfl, hNG, hG, hnc, hcm, hcs, ht⟩
  · obtain rfl := List.eq_nil_of_length_eq_zero h0
    refine (unmask_nil k0 k1 k2 k3 p0 B N w hp hNB hB).mono ?_
    rintro e w' ⟨rfl, hb⟩
    exact ⟨rfl, ⟨rfl, .inl ⟨rfl, rfl⟩⟩, hb⟩
  · have hBG : B ≠ G := fun e => hBv (by rw [e]; rfl)
    rw [Nat.mul_one] at hcs ht
    have hl : ∀ j, j < l.length → cur0[j]? = some (.int .u8 (l.getD j 0)) := by
      intro j hj
      have h1 : (cur0.toList.take l.length)[j]? = (encB l)[j]? := by rw [ht]
      rw [List.getElem?_take_of_lt hj, Array.getElem?_toList] at h1
      rw [h1, encB, encs, List.getElem?_map, List.getElem?_eq_getElem hj, List.getD_eq_getElem?_getD, List.getElem?_eq_getElem hj]
      rfl
    have fin : ∀ (e : Ending) (w' : World), (e = .returned (.tuple #[]) ∧ ∃ cur, w'.heap[G]? = some (.cells cur 5 (0, 0)) ∧ Masked l (ksOf k0 k1 k2 k3) p0 cur0 cur l.length ∧ Below N w w') → e = .returned (.tuple #[]) ∧ w'.ownsRow N 5 1 (.slice (some ⟨G, 0, none⟩) l.length cap) l.length (encB (maskL (ksOf k0 k1 k2 k3) p0 l)) ∧ Below N w w' := by
      rintro e w' ⟨rfl, cur, g1, g2, hb⟩
      refine ⟨rfl, ⟨by simp [encB, encs, maskL], .inr ⟨G, cap, cur, rfl, hNG, g1, hnc, hcm, by rw [g2.1, hcs, Nat.mul_one], ?_⟩⟩, hb⟩
      rw [Nat.mul_one]
      apply List.ext_getElem?
      intro j
      rcases Nat.lt_or_ge j l.length with hj | hj
      · rw [List.getElem?_take_of_lt hj, Array.getElem?_toList, g2.2 j, if_pos hj]
        simp [encB, encs, maskL, hj]
      · rw [List.getElem?_eq_none (by rw [List.length_take]; omega), List.getElem?_eq_none (by simp [encB, encs, maskL]; exact hj)]
    rcases Nat.lt_or_ge l.length 16 with hn | hn
    · exact (unmask_short k0 k1 k2 k3 p0 B G cap N l cur0 w hp hn (by omega) hl hBG hNB hNG hB hG).mono fin
    · exact (unmask_long k0 k1 k2 k3 p0 B G cap N l cur0 w hp hn hnM hnc (by omega) hl hbl hks hBG hNB hNG hB hG).mono fin
set_option maxHeartbeats 8000000 in
set_option maxRecDepth 100000 in
theorem server_Unmask.walk (k0 k1 k2 k3 : Int) (p0 N : Nat) (v : Value) (l : List Int) (w : World) (hp : p0 < 256) (hnM : l.length ≤ 1000000) (hbl : ∀ z ∈ l, 0 ≤ z ∧ z ≤ 255) (hks : ∀ j, 0 ≤ ksOf k0 k1 k2 k3 j ∧ ksOf k0 k1 k2 k3 j ≤ 255) (hN : N ≤ w.heap.size) (ho : w.ownsRow N 5 1 v l.length (encB l)) :
    Calls Try.prog 7 #[.agg #[.int .u8 k0, .int .u8 k1, .int .u8 k2, .int .u8 k3], .int .u8 p0, v] w fun e w' => e = .returned (.tuple #[]) ∧ w'.ownsRow N 5 1 v l.length (encB (maskL (ksOf k0 k1 k2 k3) p0 l)) ∧ Below N w w' := by
  have hvB : v.ownBlock ≠ some (w.heap.size + 1) := by
    rcases ho.2 with ⟨rfl, h0⟩ | ⟨G, cap, cur0, rfl, hNG, hG, hnc, hcm, hcs, ht⟩
    · exact fun e => by cases e
    · intro e
      have e2 : G = w.heap.size + 1 := Option.some.inj e
      have := (Array.getElem?_eq_some_iff.1 hG).1
      omega
  have HO := Aside0.mk (fun (o1 o2 : Obj) => (ho.alloc o1).alloc o2)
  have HX := Aside0.mk (And.intro hN hvB)
  have HP := Aside0.mk (And.intro hp (And.intro hnM (And.intro hbl hks)))
  clear ho hN hvB hp hnM hbl hks
  go_enter Try.func7, Try.ntmps7
  go_wp2_with fail
  refine (unmask_all k0 k1 k2 k3 p0 (w.heap.size + 1) N v l _ HP.out.1 HP.out.2.1 HP.out.2.2.1 HP.out.2.2.2 HX.out.2 (Nat.le_trans HX.out.1 (Nat.le_succ _)) ?_ (HO.out _ _)).mono ?_
  · have := heap_alloc_new (w.alloc (.cells #[.int .u8 k0, .int .u8 k1, .int .u8 k2, .int .u8 k3] 22)) (.cells (infoW p0 k0 k1 k2 k3) 33 (0, 0))
    rw [show (w.alloc (.cells #[.int .u8 k0, .int .u8 k1, .int .u8 k2, .int .u8 k3] 22)).heap.size = w.heap.size + 1 by simp] at this
    exact this
  · rintro e w' ⟨rfl, hO, hB⟩
    have HO2 := Aside0.mk hO
    have HB2 := Aside0.mk (((Below.refl N w).alloc HX.out.1 _).alloc (Nat.le_trans HX.out.1 (by simp)) _ |>.trans hB)
    clear hO hB
    go_wp2_with fail
    go_end0
    exact ⟨rfl, HO2.out, HB2.out⟩

end Go.Proofs.Ytchajidblfakiaa.MaskW
