/- WALKS: two lists of tasks compared, two lists of answers. -/
import Derived.Test.YtnkjlfadegjjoaaDoorProg
import Derived.Below
import Derived.Deep.Draws
import Derived.Deep.AppendLies
import Derived.Maps.AppendAt
import Derived.OwnWalk
import Derived.Laws.BytesArg
import Derived.Laws.MakeOwn
import Derived.Laws.OwnMore
import Derived.Deep.OwnRows
import Derived.Tactics
import Derived.Lib.ConvBytes
import Derived.Laws.Slices
import Derived.WalkKit
import Derived.KernelRfl
import Derived.RowKit3
import Derived.Deep.LoopGhost
import Derived.Deep.QuietTactic
import Derived.BigQuiet
import Derived.WideLaws
import Derived.Deep.DeepCutAuto
import Derived.Deep.CutBlock
import Derived.Deep.RegionHeld3
import Derived.Laws.Rows
import Derived.Lib.AppendStr
import Derived.ArgAppend
import Derived.Laws.IdiomCopy
import Derived.OrdersHeld
import Derived.Laws.BitsLemmas
import Derived.RowKit
import Derived.Test.YtnkjlfadegjjoaaDoorRoad
import Derived.Test.YtnkjlfadegjjoaaDoorWWords
import Derived.Test.YtnkjlfadegjjoaaDoorWLast
import Derived.Test.YtnkjlfadegjjoaaDoorWTab
import Derived.Test.YtnkjlfadegjjoaaDoorWFour
import Derived.Test.YtnkjlfadegjjoaaDoorWQPut
import Derived.Test.YtnkjlfadegjjoaaDoorWApart
import Derived.Test.YtnkjlfadegjjoaaDoorWArr
import Derived.Test.YtnkjlfadegjjoaaDoorWZeros
import Derived.Test.YtnkjlfadegjjoaaDoorWFoot
import Derived.Test.YtnkjlfadegjjoaaDoorWKept
import Derived.Test.YtnkjlfadegjjoaaDoorWShare
import Derived.Test.YtnkjlfadegjjoaaDoorWN
import Derived.Test.YtnkjlfadegjjoaaDoorWFootNe
import Derived.Test.YtnkjlfadegjjoaaDoorWAt
import Derived.Test.YtnkjlfadegjjoaaDoorWEqStruct
import Derived.Test.YtnkjlfadegjjoaaDoorWRepsOne
import Derived.Test.YtnkjlfadegjjoaaDoorWInv
import Derived.Test.YtnkjlfadegjjoaaDoorWInvWords
import Derived.Test.YtnkjlfadegjjoaaDoorWGuard
import Derived.Test.YtnkjlfadegjjoaaDoorWNEv
import Derived.Test.YtnkjlfadegjjoaaDoorWMore
import Derived.Test.YtnkjlfadegjjoaaDoorWhC
namespace Go.Proofs.YtnkjlfadegjjoaaDoor.WhS
open Go.RowKit Go.Proofs.YtnkjlfadegjjoaaDoorW.PrintWords Go.Proofs.YtnkjlfadegjjoaaDoorW.PrintLast Go.Proofs.YtnkjlfadegjjoaaDoorW.PrintMore
attribute [local go_sem] max2_int min2_int max_two min_two max_three min_three max_four min_four   -- for this text's walks alone
set_option linter.unusedVariables false
set_option linter.unusedSimpArgs false



open Go.Maps
open _root_.Go.Proofs.YtnkjlfadegjjoaaDoor.WhA
open _root_.Go.Proofs.YtnkjlfadegjjoaaDoor.WhB
open _root_.Go.Proofs.YtnkjlfadegjjoaaDoor.WhC
/-! ### two lists of tasks, two lists of answers, compared -/
def dT : Tk := (0, 0)
def natV : Value → Nat
  | .int _ z => z.toNat
  | _ => 0
def K (ys : List Tk) (j : Nat) : Int := (ys.getD j dT).1
def sw (ys : List Tk) (j : Nat) : List Tk := (ys.set (j + 1) (ys.getD j dT)).set j (ys.getD (j + 1) dT)
theorem sw_len (ys : List Tk) (j : Nat) : (sw ys j).length = ys.length := by simp [sw]
theorem sw_perm : ∀ (j : Nat) (ys : List Tk), j + 1 < ys.length → (sw ys j).Perm ys
  | 0, [], h => by simp at h
  | 0, [a], h => by simp at h
  | 0, a :: b :: l, _ => List.Perm.swap a b l
  | j + 1, [], h => by simp at h
  | j + 1, a :: l, h => by
    have := sw_perm j l (by simpa using h)
    exact List.Perm.cons a this
theorem K_sw (ys : List Tk) (j : Nat) (h : j + 1 < ys.length) (m : Nat) : K (sw ys j) m = if m = j then K ys (j + 1) else if m = j + 1 then K ys j else K ys m := by
  unfold K sw
  rw [List.getD_eq_getElem?_getD, List.getElem?_set]
  by_cases h1 : m = j
  · subst h1
    rw [if_pos rfl, if_pos (by rw [List.length_set]; omega), if_pos rfl]
    rfl
  · rw [if_neg (fun e => h1 e.symm), if_neg h1, List.getElem?_set]
    by_cases h2 : m = j + 1
    · subst h2
      rw [if_pos rfl, if_pos h, if_pos rfl]
      rfl
    · rw [if_neg (fun e => h2 e.symm), if_neg h2, ← List.getD_eq_getElem?_getD]
def SU (ys : List Tk) (i : Nat) : Prop := ∀ a b, a < b → b < i → K ys a ≤ K ys b
structure InvK (ys : List Tk) (i k : Nat) : Prop where
  le : k ≤ i
  one : ∀ a b, a < b → b ≤ i → a ≠ k → b ≠ k → K ys a ≤ K ys b
  two : ∀ b, k < b → b ≤ i → K ys k ≤ K ys b
theorem InvK.start {ys : List Tk} {i : Nat} (h : SU ys i) : InvK ys i i := ⟨Nat.le_refl _, fun a b h1 h2 h3 h4 => h a b h1 (by omega), fun b h1 h2 => by omega⟩
theorem InvK.zero {ys : List Tk} {i : Nat} (h : InvK ys i 0) : SU ys (i + 1) := fun a b h1 h2 => by
  by_cases c : a = 0
  · subst c; exact h.two b h1 (by omega)
  · exact h.one a b h1 (by omega) c (by omega)
theorem InvK.stop {ys : List Tk} {i j : Nat} (h : InvK ys i (j + 1)) (hk : K ys j ≤ K ys (j + 1)) : SU ys (i + 1) := fun a b h1 h2 => by
  by_cases c : a = j + 1
  · subst c; exact h.two b h1 (by omega)
  · by_cases d : b = j + 1
    · subst d
      by_cases e : a = j
      · rw [e]; exact hk
      · exact Int.le_trans (h.one a j (by omega) (by have := h.le; omega) c (by omega)) hk
    · exact h.one a b h1 (by omega) c d
theorem InvK.step {ys : List Tk} {i j : Nat} (h : InvK ys i (j + 1)) (hl : j + 1 < ys.length) (hk : K ys (j + 1) < K ys j) : InvK (sw ys j) i j := by
  have hle := h.le
  refine ⟨by omega, fun a b h1 h2 h3 h4 => ?_, fun b h1 h2 => ?_⟩
  · rw [K_sw ys j hl, K_sw ys j hl, if_neg h3, if_neg h4]
    by_cases c : a = j + 1
    · rw [if_pos c, if_neg (by omega)]
      exact h.one j b (by omega) h2 (by omega) (by omega)
    · rw [if_neg c]
      by_cases d : b = j + 1
      · rw [if_pos d]
        exact h.one a j (by omega) (by omega) c (by omega)
      · rw [if_neg d]
        exact h.one a b h1 h2 c d
  · rw [K_sw ys j hl, K_sw ys j hl, if_pos rfl, if_neg (by omega)]
    by_cases d : b = j + 1
    · rw [if_pos d]; omega
    · rw [if_neg d]; exact h.two b (by omega) h2
theorem kT_openM {w : World} {base : Nat} {ok : Nat → Prop} {x : Tk} {cs : List Value} (h : kT.M w base ok x cs) : cs = [.int .u64 x.1, .int .i64 x.2] := by
  obtain ⟨_, _, rfl, rfl, rfl⟩ := h
  exact rfl
theorem kT_open {w : World} {x : Tk} {cs : List Value} (h : kT.K w x cs) : cs = [.int .u64 x.1, .int .i64 x.2] := by
  obtain ⟨_, _, rfl, rfl, rfl⟩ := h
  exact rfl
/-- A task of a row. -/
theorem RT_at {w : World} {base n cap g : Nat} {ok : Nat → Prop} {ys : List Tk} (h : Kd.R kT 39 w base ok (.slice (some ⟨g, 0, none⟩) n cap) ys) (k : Nat) (hk : k < n) :
    w.cell? ⟨g, k * 2, none⟩ = some (.int .u64 (ys.getD k dT).1) ∧ w.cell? ⟨g, k * 2 + 1, none⟩ = some (.int .i64 (ys.getD k dT).2) ∧ w.frozen? ⟨g, k * 2, none⟩ = false ∧ w.frozen? ⟨g, k * 2 + 1, none⟩ = false := by
  obtain ⟨c, hcl, hM, hcc, hfr⟩ := Kd.R_elem h dT (k : Int) (by omega) (by omega)
  obtain rfl := kT_openM hM
  simp only [Int.toNat_natCast] at hcc hfr
  exact ⟨hcc 0 _ rfl, hcc 1 _ rfl, hfr 0, hfr 1⟩
theorem RT_put {w : World} {base n cap g : Nat} {ok : Nat → Prop} {ys : List Tk} (h : Kd.R kT 39 w base ok (.slice (some ⟨g, 0, none⟩) n cap) ys) (k : Nat) (hk : k < n) (y : Tk) :
    Kd.R kT 39 ((w.setCell ⟨g, k * 2, none⟩ (.int .u64 y.1)).setCell ⟨g, k * 2 + 1, none⟩ (.int .i64 y.2)) base ok (.slice (some ⟨g, 0, none⟩) n cap) (ys.set k y) ∧ w.grownBy ((w.setCell ⟨g, k * 2, none⟩ (.int .u64 y.1)).setCell ⟨g, k * 2 + 1, none⟩ (.int .i64 y.2)) (some g) := by
  obtain ⟨c, hcl, hM, hcc, hfr⟩ := Kd.R_elem h dT (k : Int) (by omega) (by omega)
  have := Kd.R_seg h (k : Int) (by omega) (by omega) (seg := [.int .u64 y.1, .int .i64 y.2]) (j := 0) (x' := y) (okp := fun _ => False) hcl hcc (show 2 ≤ 2 from by decide) (by
    rw [kT_openM hM]
    exact kT_mkM _ _ _ _ _) (fun _ h => h.elim)
  simp only [Int.toNat_natCast] at this
  exact this
set_option maxHeartbeats 16000000 in
set_option maxRecDepth 100000 in
theorem bySeq_calls (xs : List Tk) (A : Option Addr) (c : Nat) (w : World) (hC : Kd.C kT w A xs.length xs) (hc : xs.length ≤ c) (hl : xs.length ≤ 10000000) :
    Calls Tryd.prog 31 #[.slice A xs.length c] w fun e w' => ∃ v ys, e = .returned v ∧ ys.Perm xs ∧ SU ys ys.length ∧ Kd.R kT 39 w' w.heap.size (fun _ => True) v ys ∧ Below w.heap.size w w' := by
  have HA := Aside0.mk (And.intro hC (And.intro hc hl))
  clear hC hc hl
  go_enter Tryd.func31, Tryd.ntmps31
  go_wp2_with (first | ((with_reducible refine gate_dst (N := 6) rfl ?_); refine Kd.R_lit kT w.heap.size 39 ?hg (N := 6) ?hd (xs := ([] : List Tk)) (inner := []) (ok := fun _ => True) (okp := fun _ => True) ?hr ?hp (fun _ hk => hk) trivial (Below.refl _ _) (Nat.le_refl _) (by simp) ?_; (case hd => rfl); (case hg => rfl); (case hr => first | (go_simp; done) | (go_simp; rfl)); (case hp => exact (Reps.none _ _)); intro v254 w3 ho4 hb4 hg_ hnew_; have H4 := Aside0.mk (And.intro ho4 hb4); clear hg_ hnew_ ho4 hb4) | ((with_reducible refine gate_builtin (b := .append) (xs := #[.tmp 6, .tmp 7]) rfl ?_); at_builtin; refine Kd.R_append_rows kT (w0 := w) w.heap.size rfl (.tmp 6) (.tmp 7) 25 39 (.agg #[(.int .u64 0), (.int .i64 0)]) 16 rfl Tryd.underlying25 infoT rfl (by decide) (by omega) v254 [] xs _ _ _ (fun _ => True) (fun _ => False) rfl rfl H4.out.1 (Kd.C_below HA.out.1 H4.out.2) (fun x cs h => by rw [kT_open h]; exact kT_mkM _ _ _ _ _) (fun _ h => h.elim) (fun _ _ => trivial) H4.out.2 H4.out.2.size (by have := HA.out.2.2; simp only [List.length_nil]; omega) ?_; intro v1 w1 ho hb hg hat; have H1 := Aside0.mk (And.intro ho hb); clear ho hb hg hat) | go_in)
  obtain ⟨A1, c1, hv1⟩ := Kd.R_slice H1.out.1
  rw [List.nil_append] at hv1
  subst hv1
  go_loopw [4] (fun v4 wr => ∃ (i : Nat) (ys : List Tk), v4 = .int .i64 (i : Int) ∧ Aside0 (1 ≤ i ∧ i ≤ xs.length + 1) ∧ Aside0 (ys.Perm xs ∧ SU ys i ∧ Kd.R kT 39 wr w.heap.size (fun _ => True) (.slice A1 xs.length c1) ys ∧ Below w.heap.size w wr)) (fun v4 _ => Road.leftOf xs.length v4)
  case atStart => exact ⟨1, xs, rfl, ⟨by omega, by omega⟩, ⟨List.Perm.refl _, fun a b h1 h2 => by omega, H1.out.1, H1.out.2⟩⟩
  case round =>
    obtain ⟨i, ys, rfl, HI, HS⟩ := hrel
    rcases Nat.lt_or_ge i xs.length with hi | hi
    · have i1 := eq_true (show (i : Int) < (xs.length : Int) by omega)
      have i2 := eq_true hi
      have wi : wrap64 ((i : Int) + 1) = ((i + 1 : Nat) : Int) := Road.wrap_nat i (by have := HA.out.2.2; omega)
      have HWI := Aside0.mk (And.intro wi hi)
      clear wi hi
      go_wp2_with fail
      have hn2 : 0 < xs.length := by have := HWI.out.2; omega
      obtain ⟨g, rfl⟩ : ∃ g, A1 = some ⟨g, 0, none⟩ := by
        obtain ⟨g, cap, e, _⟩ := Kd.R_form HS.out.2.2.1 (by rw [HS.out.1.length_eq]; exact hn2)
        injection e with e
        exact ⟨g, e⟩
      clear hn2
      go_loopw [5] (fun v5 wx => ∃ (k : Nat) (zs : List Tk), v5 = .int .i64 (k : Int) ∧ Aside0 (zs.Perm xs ∧ InvK zs i k ∧ Kd.R kT 39 wx w.heap.size (fun _ => True) (.slice (some ⟨g, 0, none⟩) xs.length c1) zs ∧ Below w.heap.size w wx)) (fun v5 _ => natV v5)
      case atStart => exact ⟨i, ys, rfl, ⟨HS.out.1, InvK.start HS.out.2.1, HS.out.2.2.1, HS.out.2.2.2⟩⟩
      case round =>
        obtain ⟨k, zs, rfl, HZ⟩ := hrel
        rcases Nat.eq_zero_or_pos k with hk0 | hk0
        · have q1 := eq_false (show ¬ (0 < (k : Int)) by omega)
          have q2 : decide (0 < (k : Int)) = false := decide_eq_false (show ¬ (0 < (k : Int)) by omega)
          have q3 : decide (0 < k) = false := decide_eq_false (show ¬ (0 < k) by omega)
          have q4 := eq_false (show ¬ (0 < k) by omega)
          have HK0 := Aside0.mk hk0
          clear hk0
          go_wp2_with fail
          go_quiet (fail)
          go_wp2_with fail
          go_roundw
          case rel =>
            obtain ⟨h1, h2, h3, h4⟩ := HZ.out
            rw [HK0.out] at h2
            exact ⟨i + 1, zs, congrArg (Value.int .i64) HWI.out.1, ⟨by omega, by have := HWI.out.2; omega⟩, ⟨h1, h2.zero, Kd.R_drewN h3 _, pw_below_drewN h4 _⟩⟩
          case measure => rw [HWI.out.1]; exact Road.leftOf_lt (of_eq_true i2)
        · obtain ⟨j, hj⟩ : ∃ j, k = j + 1 := ⟨k - 1, by omega⟩
          have hkn : k < xs.length := by have := HZ.out.2.1.le; have := of_eq_true i2; omega
          have q1 := eq_true (show 0 < (k : Int) by omega)
          have q2 : decide (0 < (k : Int)) = true := decide_eq_true (show 0 < (k : Int) by omega)
          have q2a : decide (0 < k) = true := decide_eq_true hk0
          have q2b := eq_true (show 0 < k from hk0)
          have w1k : wrap64 ((k : Int) - 1) = (j : Int) := Road.w64 _ _ (by omega) (by omega) (by have := HA.out.2.2; omega)
          have HW1 := Aside0.mk w1k
          have q3 := eq_true (show (k : Int) < (xs.length : Int) by omega)
          have q4 := eq_true hkn
          have q5 := eq_true (show (j : Int) < (xs.length : Int) by omega)
          have q6 := eq_true (show j < xs.length by omega)
          obtain ⟨ka1, ka2, fa1, fa2⟩ := RT_at HZ.out.2.2.1 k hkn
          obtain ⟨kb1, kb2, fb1, fb2⟩ := RT_at HZ.out.2.2.1 j (by omega)
          obtain ⟨a1, ha1⟩ : ∃ x, x = (zs.getD k dT).1 := ⟨_, rfl⟩
          obtain ⟨a2, ha2⟩ : ∃ x, x = (zs.getD k dT).2 := ⟨_, rfl⟩
          obtain ⟨b1, hb1⟩ : ∃ x, x = (zs.getD j dT).1 := ⟨_, rfl⟩
          obtain ⟨b2, hb2⟩ : ∃ x, x = (zs.getD j dT).2 := ⟨_, rfl⟩
          rw [← ha1] at ka1
          rw [← ha2] at ka2
          rw [← hb1] at kb1
          rw [← hb2] at kb2
          have HV := Aside0.mk (And.intro ha1 (And.intro ha2 (And.intro hb1 hb2)))
          have HJ := Aside0.mk (And.intro hj hkn)
          have HFR := Aside0.mk (And.intro fa1 (And.intro fa2 (And.intro fb1 fb2)))
          clear ha1 ha2 hb1 hb2 hj hkn hk0 fa1 fa2 fb1 fb2
          by_cases hlt : a1 < b1
          · have q7 := eq_true hlt
            have q8 : decide (a1 < b1) = true := decide_eq_true hlt
            have HLT := Aside0.mk hlt
            clear hlt
            go_wp2_with fail
            go_quiet (fail)
            go_upto_region 8 with fail
            have KK := Aside0.mk (Kd.R_drew (Kd.R_drewN HZ.out.2.2.1 nq))
            have HBW := Aside0.mk (below_drew1 (pw_below_drewN HZ.out.2.2.2 nq))
            obtain ⟨na1, na2, ga1, ga2⟩ := RT_at KK.out k HJ.out.2
            obtain ⟨nb1, nb2, gb1, gb2⟩ := RT_at KK.out j (of_eq_true q6)
            rw [← HV.out.1] at na1
            rw [← HV.out.2.1] at na2
            rw [← HV.out.2.2.1] at nb1
            rw [← HV.out.2.2.2] at nb2
            clear ka1 ka2 kb1 kb2 HFR
            refine start_ (n := 18) (S := fun w' => w'.cell? ⟨g, k * 2, none⟩ = some (.int .u64 a1) ∧ w'.cell? ⟨g, k * 2 + 1, none⟩ = some (.int .i64 a2) ∧ w'.cell? ⟨g, j * 2, none⟩ = some (.int .u64 b1) ∧ w'.cell? ⟨g, j * 2 + 1, none⟩ = some (.int .i64 b2)) (ds := [15, 17]) #[false, false, false, false, false, false, false, false, false, false, false, false, false, false, false, false, false, false] (by kernel_rfl) rfl rfl ⟨na1, na2, nb1, nb2⟩ (fun hHeld => ?_)
            generalize (wr.drewN nq).drew = W0 at KK na1 na2 nb1 nb2 ga1 ga2 gb1 gb2 hHeld HBW ⊢
            have hR1 := RT_put KK.out k HJ.out.2 (b1, b2)
            obtain ⟨m1, m2, m3, m4⟩ := RT_at hR1.1 j (of_eq_true q6)
            have HR1 := Aside0.mk hR1
            simp only at m1 m2 m3 m4
            clear hR1
            refine pure_ (i := 0) (N := some 34) (v := ?_) (a' := ?_) #[true, false, false, false, false, false, false, false, false, false, false, false, false, false, false, false, false, false] rfl rfl (by kernel_rfl) (fun _ _ _ h => h) (Or.inl ⟨by rfl, ?_⟩) ?_ ?_
            rotate_left
            · intro w'
              go_simp
              with_reducible rfl
            rotate_left
            · simp only [Act.put, List.setIfInBounds_toArray, List.set_cons_zero, List.set_cons_succ, i64_w, i32_w]
              rfl
            refine pure_ (i := 1) (N := some 35) (v := ?_) (a' := ?_) #[true, true, false, false, false, false, false, false, false, false, false, false, false, false, false, false, false, false] rfl rfl (by kernel_rfl) (fun _ _ _ h => h) (Or.inl ⟨by rfl, ?_⟩) ?_ ?_
            rotate_left
            · intro w'
              go_simp
              with_reducible rfl
            rotate_left
            · simp only [Act.put, List.setIfInBounds_toArray, List.set_cons_zero, List.set_cons_succ, i64_w, i32_w]
              rfl
            refine pure_ (i := 2) (N := some 36) (v := ?_) (a' := ?_) #[true, true, true, false, false, false, false, false, false, false, false, false, false, false, false, false, false, false] rfl rfl (by kernel_rfl) (fun _ _ _ h => h) (Or.inl ⟨by rfl, ?_⟩) ?_ ?_
            rotate_left
            · intro w'
              go_simp
              with_reducible rfl
            rotate_left
            · simp only [Act.put, List.setIfInBounds_toArray, List.set_cons_zero, List.set_cons_succ, i64_w, i32_w]
              rfl
            refine pure_ (i := 3) (N := some 37) (v := ?_) (a' := ?_) #[true, true, true, true, false, false, false, false, false, false, false, false, false, false, false, false, false, false] rfl rfl (by kernel_rfl) (fun _ _ _ h => h) (Or.inl ⟨by rfl, ?_⟩) ?_ ?_
            rotate_left
            · intro w'
              go_simp
              with_reducible rfl
            rotate_left
            · simp only [Act.put, List.setIfInBounds_toArray, List.set_cons_zero, List.set_cons_succ, i64_w, i32_w]
              rfl
            refine pure_ (i := 4) (N := some 38) (v := ?_) (a' := ?_) #[true, true, true, true, true, false, false, false, false, false, false, false, false, false, false, false, false, false] rfl rfl (by kernel_rfl) (fun _ _ _ h => h) (Or.inl ⟨by rfl, ?_⟩) ?_ ?_
            rotate_left
            · intro w'
              go_simp
              with_reducible rfl
            rotate_left
            · simp only [Act.put, List.setIfInBounds_toArray, List.set_cons_zero, List.set_cons_succ, i64_w, i32_w]
              rfl
            refine pure_ (i := 5) (N := some 39) (v := ?_) (a' := ?_) #[true, true, true, true, true, true, false, false, false, false, false, false, false, false, false, false, false, false] rfl rfl (by kernel_rfl) (fun _ _ _ h => h) (Or.inl ⟨by rfl, ?_⟩) ?_ ?_
            rotate_left
            · intro w'
              go_simp
              with_reducible rfl
            rotate_left
            · simp only [Act.put, List.setIfInBounds_toArray, List.set_cons_zero, List.set_cons_succ, i64_w, i32_w]
              rfl
            refine pure_ (i := 6) (N := some 40) (v := ?_) (a' := ?_) #[true, true, true, true, true, true, true, false, false, false, false, false, false, false, false, false, false, false] rfl rfl (by kernel_rfl) (fun _ _ _ h => h) (Or.inl ⟨by rfl, ?_⟩) ?_ ?_
            rotate_left
            · intro w'
              go_simp
              with_reducible rfl
            rotate_left
            · simp only [Act.put, List.setIfInBounds_toArray, List.set_cons_zero, List.set_cons_succ, i64_w, i32_w]
              rfl
            refine pure_ (i := 7) (N := some 41) (v := ?_) (a' := ?_) #[true, true, true, true, true, true, true, true, false, false, false, false, false, false, false, false, false, false] rfl rfl (by kernel_rfl) (fun _ _ _ h => h) (Or.inl ⟨by rfl, ?_⟩) ?_ ?_
            rotate_left
            · intro w'
              go_simp
              with_reducible rfl
            rotate_left
            · simp only [Act.put, List.setIfInBounds_toArray, List.set_cons_zero, List.set_cons_succ, i64_w, i32_w]
              rfl
            refine pure_ (i := 8) (N := some 42) (v := ?_) (a' := ?_) #[true, true, true, true, true, true, true, true, true, false, false, false, false, false, false, false, false, false] rfl rfl (by kernel_rfl) (fun _ _ _ h => h) (Or.inl ⟨by rfl, ?_⟩) ?_ ?_
            rotate_left
            · intro w'
              go_simp
              with_reducible rfl
            rotate_left
            · simp only [Act.put, List.setIfInBounds_toArray, List.set_cons_zero, List.set_cons_succ, i64_w, i32_w]
              rfl
            refine take_ (i := 9) (N := some 43) (v := ?_) (a' := ?_) #[true, true, true, true, true, true, true, true, true, true, false, false, false, false, false, false, false, false] rfl rfl (by kernel_rfl) (fun _ _ _ h => h) (Or.inl ⟨by rfl, ?_⟩) hHeld ?_ ?_
            rotate_left
            · intro w' hS'
              obtain ⟨l1, l2, l3, l4⟩ := hS'
              go_simp
              with_reducible rfl
            rotate_left
            · simp only [Act.put, List.setIfInBounds_toArray, List.set_cons_zero, List.set_cons_succ, i64_w, i32_w]
              rfl
            refine pure_ (i := 10) (N := some 44) (v := ?_) (a' := ?_) #[true, true, true, true, true, true, true, true, true, true, true, false, false, false, false, false, false, false] rfl rfl (by kernel_rfl) (fun _ _ _ h => h) (Or.inl ⟨by rfl, ?_⟩) ?_ ?_
            rotate_left
            · intro w'
              go_simp
              with_reducible rfl
            rotate_left
            · simp only [Act.put, List.setIfInBounds_toArray, List.set_cons_zero, List.set_cons_succ, i64_w, i32_w]
              rfl
            refine pure_ (i := 11) (N := some 45) (v := ?_) (a' := ?_) #[true, true, true, true, true, true, true, true, true, true, true, true, false, false, false, false, false, false] rfl rfl (by kernel_rfl) (fun _ _ _ h => h) (Or.inl ⟨by rfl, ?_⟩) ?_ ?_
            rotate_left
            · intro w'
              go_simp
              with_reducible rfl
            rotate_left
            · simp only [Act.put, List.setIfInBounds_toArray, List.set_cons_zero, List.set_cons_succ, i64_w, i32_w]
              rfl
            refine pure_ (i := 12) (N := some 46) (v := ?_) (a' := ?_) #[true, true, true, true, true, true, true, true, true, true, true, true, true, false, false, false, false, false] rfl rfl (by kernel_rfl) (fun _ _ _ h => h) (Or.inl ⟨by rfl, ?_⟩) ?_ ?_
            rotate_left
            · intro w'
              go_simp
              with_reducible rfl
            rotate_left
            · simp only [Act.put, List.setIfInBounds_toArray, List.set_cons_zero, List.set_cons_succ, i64_w, i32_w]
              rfl
            refine take_ (i := 13) (N := some 47) (v := ?_) (a' := ?_) #[true, true, true, true, true, true, true, true, true, true, true, true, true, true, false, false, false, false] rfl rfl (by kernel_rfl) (fun _ _ _ h => h) (Or.inl ⟨by rfl, ?_⟩) hHeld ?_ ?_
            rotate_left
            · intro w' hS'
              obtain ⟨l1, l2, l3, l4⟩ := hS'
              go_simp
              with_reducible rfl
            rotate_left
            · simp only [Act.put, List.setIfInBounds_toArray, List.set_cons_zero, List.set_cons_succ, i64_w, i32_w]
              rfl
            refine pure_ (i := 14) (N := some 48) (v := ?_) (a' := ?_) #[true, true, true, true, true, true, true, true, true, true, true, true, true, true, true, false, false, false] rfl rfl (by kernel_rfl) (fun _ _ _ h => h) (Or.inl ⟨by rfl, ?_⟩) ?_ ?_
            rotate_left
            · intro w'
              go_simp
              with_reducible rfl
            rotate_left
            · simp only [Act.put, List.setIfInBounds_toArray, List.set_cons_zero, List.set_cons_succ, i64_w, i32_w]
              rfl
            refine last_ (i := 15) (N := none) #[true, true, true, true, true, true, true, true, true, true, true, true, true, true, true, true, false, false] rfl rfl (by kernel_rfl) (by decide) (fun K hK => ?_)
            refine skip_ (w1 := ?_) (by rfl) rfl ?_ ?_
            rotate_left
            · go_simp
              rfl
            refine hK.out _ _ ?_
            clear hK K
            refine pure_ (i := 16) (N := some 49) (v := ?_) (a' := ?_) #[true, true, true, true, true, true, true, true, true, true, true, true, true, true, true, true, true, false] rfl rfl (by kernel_rfl) (fun _ _ _ h => h) (Or.inl ⟨by rfl, ?_⟩) ?_ ?_
            rotate_left
            · intro w'
              go_simp
              with_reducible rfl
            rotate_left
            · simp only [Act.put, List.setIfInBounds_toArray, List.set_cons_zero, List.set_cons_succ, i64_w, i32_w]
              rfl
            refine last_ (i := 17) (N := none) #[true, true, true, true, true, true, true, true, true, true, true, true, true, true, true, true, true, true] rfl rfl (by kernel_rfl) (by decide) (fun K hK => ?_)
            refine skip_ (w1 := ?_) (by rfl) rfl ?_ ?_
            rotate_left
            · go_simp
              rfl
            refine hK.out _ _ ?_
            clear hK K
            refine done_ (by kernel_rfl) ?_
            go_wp2_with fail
            go_roundw
            case rel =>
              obtain ⟨h1, h2, h3, h4⟩ := HZ.out
              obtain ⟨v1, v2, v3, v4⟩ := HV.out
              have hjk := HJ.out.1
              have hR2 := RT_put HR1.out.1 j (of_eq_true q6) (a1, a2)
              have e1 : (zs.set k (b1, b2)).set j (a1, a2) = sw zs j := by
                unfold sw
                rw [← hjk, show (b1, b2) = zs.getD j dT by rw [v3, v4], show (a1, a2) = zs.getD k dT by rw [v1, v2]]
              have hg : w.heap.size ≤ g := Kd.R_base KK.out g rfl
              have hlen : j + 1 < zs.length := by rw [h1.length_eq, ← hjk]; exact HJ.out.2
              refine ⟨j, sw zs j, congrArg (Value.int .i64) HW1.out, ⟨(sw_perm j zs hlen).trans h1, (hjk ▸ h2).step hlen ?_, e1 ▸ hR2.1, ?_⟩⟩
              · have b0 := HBW.out
                have b1' := b0.grown HR1.out.2 b0.size (fun q hq => by injection hq with hq; omega)
                exact b1'.grown hR2.2 b1'.size (fun q hq => by injection hq with hq; omega)
              · have := HLT.out
                rw [v1, v3, hjk] at this
                exact this
            case measure =>
              rw [HW1.out]
              have := HJ.out.1
              show (j : Int).toNat < (k : Int).toNat
              omega
          · have q7 := eq_false hlt
            have q8 : decide (a1 < b1) = false := decide_eq_false hlt
            have HLT := Aside0.mk hlt
            clear hlt
            go_wp2_with fail
            go_quiet (fail)
            go_wp2_with fail
            go_roundw
            case rel =>
              obtain ⟨h1, h2, h3, h4⟩ := HZ.out
              rw [HJ.out.1] at h2
              refine ⟨i + 1, zs, congrArg (Value.int .i64) HWI.out.1, ⟨by omega, by have := HWI.out.2; omega⟩, ⟨h1, h2.stop ?_, Kd.R_drewN h3 _, pw_below_drewN h4 _⟩⟩
              obtain ⟨v1, v2, v3, v4⟩ := HV.out
              have := HLT.out
              rw [v1, v3, HJ.out.1] at this
              unfold K
              omega
            case measure => rw [HWI.out.1]; exact Road.leftOf_lt (of_eq_true i2)
    · have i1 := eq_false (show ¬ (i : Int) < (xs.length : Int) by omega)
      have i2 := eq_false (show ¬ i < xs.length by omega)
      go_wp2_with fail
      go_ret
      obtain ⟨h1, h2, h3, h4⟩ := HS.out
      exact ⟨_, ys, rfl, h1, fun a b h5 h6 => h2 a b h5 (by rw [h1.length_eq] at h6; omega), h3, h4⟩
/-- Two sorted lists with the same tasks, each number once, are one. -/
theorem K_get {ys : List Tk} {j : Nat} (h : j < ys.length) : K ys j = (ys[j]'h).1 := by
  unfold K
  rw [List.getD_eq_getElem?_getD, List.getElem?_eq_getElem h]
  rfl
theorem SU_tail {y : Tk} {ys : List Tk} (h : SU (y :: ys) (y :: ys).length) : SU ys ys.length := fun a b h1 h2 => by
  have := h (a + 1) (b + 1) (by omega) (by rw [List.length_cons]; omega)
  exact this
theorem SU_head {y z : Tk} {ys : List Tk} (h : SU (y :: ys) (y :: ys).length) (hz : z ∈ ys) : y.1 ≤ z.1 := by
  obtain ⟨j, hj, rfl⟩ := List.mem_iff_getElem.1 hz
  have := h 0 (j + 1) (by omega) (by rw [List.length_cons]; omega)
  have e : K (y :: ys) (j + 1) = (ys[j]'hj).1 := by rw [K_get (by rw [List.length_cons]; omega)]; rfl
  rw [e] at this
  exact this
theorem sorted_one : ∀ {ys zs : List Tk}, ys.Perm zs → (ys.map (·.1)).Nodup → SU ys ys.length → SU zs zs.length → ys = zs
  | [], zs, hp, _, _, _ => (List.Perm.eq_nil hp.symm).symm
  | y :: ys, [], hp, _, _, _ => absurd (List.Perm.eq_nil hp) (by simp)
  | y :: ys, z :: zs, hp, hn, h1, h2 => by
    have hzs : ((z :: zs).map (·.1)).Nodup := (hp.map _).nodup_iff.1 hn
    have e : y = z := by
      have hy : y ∈ z :: zs := hp.mem_iff.1 List.mem_cons_self
      have hz : z ∈ y :: ys := hp.mem_iff.2 List.mem_cons_self
      rcases List.mem_cons.1 hy with hy | hy
      · exact hy
      · rcases List.mem_cons.1 hz with hz | hz
        · exact hz.symm
        · have a := SU_head h2 hy
          have b := SU_head h1 hz
          have c : y.1 = z.1 := by omega
          rw [List.map_cons, List.nodup_cons] at hn
          exact absurd (List.mem_map.2 ⟨z, hz, c.symm⟩) hn.1
    subst e
    rw [sorted_one ((List.perm_cons _).1 hp) (by rw [List.map_cons, List.nodup_cons] at hn; exact hn.2) (SU_tail h1) (SU_tail h2)]
theorem RT_reads {w : World} {base n cap : Nat} {A : Option Addr} {ok : Nat → Prop} {ys : List Tk} (h : Kd.R kT 39 w base ok (.slice A n cap) ys) : ys.length = n ∧ n ≤ cap ∧ Kd.C kT w A n ys := by
  obtain ⟨h1, h2, h3⟩ := Kd.R_reads' h
  exact ⟨h1.symm, h2, by rw [h1]; exact h3⟩
theorem CT_at {w : World} {A : Option Addr} {n : Nat} {ys : List Tk} (h : Kd.C kT w A n ys) (i : Nat) (h1 : i < n) : ∃ ad, A = some ad ∧ w.cell? (ad.add (i * 2)) = some (.int .u64 (ys.getD i dT).1) ∧ w.cell? ⟨(ad.add (i * 2)).block, (ad.add (i * 2)).off + 1, none⟩ = some (.int .i64 (ys.getD i dT).2) := by
  obtain ⟨ad, c, e, _, hK, hc0⟩ := Kd.C_get h dT (i : Int) (by omega) (by omega)
  simp only [Int.toNat_natCast] at hc0 hK
  have hc : ∀ j u, c[j]? = some u → w.cell? (ad.add (i * 2 + j)) = some u := hc0
  obtain rfl := kT_open hK
  exact ⟨ad, e, hc 0 _ rfl, by rw [← add_field _ _ 1 (by omega)]; exact hc 1 _ rfl⟩
theorem eqT (d : Nat) (w : World) (x0 y0 : Int) (x1 y1 : Int) :
    (Op.equalIn (d + 2) 39 (.agg #[.int .u64 x0, .int .i64 x1]) (.agg #[.int .u64 y0, .int .i64 y1])).run Tryd.prog w = .ok (x0 == y0 && (x1 == y1)) w := by
  refine eqA_of Tryd.underlying39 (by kernel_rfl) ?_
  refine eqf_cons (by rfl) (by go_simp; rfl) (by go_simp; rfl) (by go_simp) ?_
  exact eqf_last (by rfl) (by go_simp; rfl) (by go_simp; rfl) (by go_simp)
attribute [local go_sem high] eqT
set_option maxHeartbeats 16000000 in
set_option maxRecDepth 100000 in
theorem sameTasks_calls (xs ys : List Tk) (A : Option Addr) (c : Nat) (A' : Option Addr) (c' : Nat) (w : World) (hC : Kd.C kT w A xs.length xs) (hc : xs.length ≤ c) (hC' : Kd.C kT w A' ys.length ys) (hc' : ys.length ≤ c') (hl : xs.length ≤ 10000000) (hp : xs.Perm ys) (hn : (xs.map (·.1)).Nodup) :
    Calls Tryd.prog 21 #[.slice A xs.length c, .slice A' ys.length c'] w fun e w' => e = .returned (.bool true) ∧ Below w.heap.size w w' := by
  have hle := hp.length_eq
  have H1 := Aside0.mk (bySeq_calls xs A c w hC hc hl)
  have H2 : ∀ w1, Below w.heap.size w w1 → _ := fun w1 h1 => bySeq_calls ys A' c' w1 (Kd.C_below hC' h1) hc' (by omega)
  have HA := Aside0.mk (And.intro H2 (And.intro hp (And.intro hn (And.intro hl hle))))
  clear hC hc hC' hc' hl hp hn hle H2
  go_enter Tryd.func21, Tryd.ntmps21
  go_wp2_with fail
  refine H1.out.mono ?_
  rintro e w1 ⟨v1, zs, rfl, p1, s1, r1, b1⟩
  have HZ1 := Aside0.mk (And.intro p1 (And.intro s1 (And.intro r1 b1)))
  clear p1 s1 r1 b1
  go_wp2_with fail
  refine (HA.out.1 w1 HZ1.out.2.2.2).mono ?_
  rintro e w2 ⟨v2, us, rfl, p2, s2, r2, b2⟩
  obtain ⟨hp, hn, hl, hle⟩ := HA.out.2
  have hu : us = zs := (sorted_one (HZ1.out.1.trans (hp.trans p2.symm)) ((HZ1.out.1.map _).nodup_iff.2 hn) HZ1.out.2.1 s2).symm
  subst hu
  have r1' := Kd.R_below HZ1.out.2.2.1 b2
  obtain ⟨A1, c1, hv1⟩ := Kd.R_slice r1'
  obtain ⟨A2, c2, hv2⟩ := Kd.R_slice r2
  subst hv1 hv2
  have HF := Aside0.mk (And.intro (RT_reads r1').2.2 (And.intro (RT_reads r2).2.2 (And.intro (HZ1.out.2.2.2.trans (b2.mono HZ1.out.2.2.2.size)) (show us.length ≤ 10000000 by rw [HZ1.out.1.length_eq]; exact hl))))
  clear hp hn hl hle p2 s2 r2 b2 r1' H1 HA HZ1
  go_wp2_with fail
  go_loopw [7] (fun v7 wr => ∃ (i : Nat), v7 = .int .i64 (i : Int) ∧ Aside0 (i ≤ us.length) ∧ Aside0 (Kd.C kT wr A1 us.length us ∧ Kd.C kT wr A2 us.length us ∧ Below w.heap.size w wr)) (fun v7 _ => Road.leftOf us.length v7)
  case atStart => exact ⟨0, rfl, ⟨Nat.zero_le _⟩, ⟨HF.out.1, HF.out.2.1, HF.out.2.2.1⟩⟩
  case round =>
    obtain ⟨i, rfl, HI, HS⟩ := hrel
    rcases Nat.lt_or_ge i us.length with hi | hi
    · have i1 := eq_true (show (i : Int) < (us.length : Int) by omega)
      have i2 := eq_true hi
      have wi : wrap64 ((i : Int) + 1) = ((i + 1 : Nat) : Int) := Road.wrap_nat i (by have := HF.out.2.2.2; omega)
      have HWI := Aside0.mk wi
      obtain ⟨a1, e1, ka1, ka2⟩ := CT_at HS.out.1 i hi
      obtain ⟨a2, e2, kb1, kb2⟩ := CT_at HS.out.2.1 i hi
      obtain ⟨x, hx⟩ : ∃ x, x = (us.getD i dT).1 := ⟨_, rfl⟩
      obtain ⟨y, hy⟩ : ∃ y, y = (us.getD i dT).2 := ⟨_, rfl⟩
      rw [← hx] at ka1 kb1
      rw [← hy] at ka2 kb2
      have HE := Aside0.mk (And.intro e1 e2)
      subst e1 e2
      clear wi hi hx hy
      go_wp2_with fail
      go_quiet (fail)
      go_wp2_with fail
      go_roundw
      case rel => exact ⟨i + 1, congrArg (Value.int .i64) HWI.out, ⟨of_eq_true i2⟩, ⟨Kd.C_drewN HS.out.1 _, Kd.C_drewN HS.out.2.1 _, pw_below_drewN HS.out.2.2 _⟩⟩
      case measure => rw [HWI.out]; exact Road.leftOf_lt (of_eq_true i2)
    · have i1 := eq_false (show ¬ (i : Int) < (us.length : Int) by omega)
      have i2 := eq_false (show ¬ i < us.length by omega)
      go_wp2_with fail
      go_ret
      exact ⟨rfl, HS.out.2.2⟩
theorem kA_open {w : World} {x : Int × List Tk} {cs : List Value} (h : kA.K w x cs) : ∃ A1 c1, cs = [.int .i64 x.1, .slice A1 x.2.length c1] ∧ x.2.length ≤ c1 ∧ Kd.C kT w A1 x.2.length x.2 := by
  obtain ⟨_, _, rfl, rfl, ⟨A1, c1, rfl, l1, g1⟩⟩ := h
  exact ⟨A1, c1, rfl, l1, g1⟩
def dA : Int × List Tk := (0, [])
theorem cellB {w wx : World} (hb : Below w.heap.size w wx) {a : Addr} {v : Value} (h : w.cell? a = some v) : wx.cell? a = some v := by
  have hl := wl_lt h
  unfold World.cell? at h ⊢
  rw [hb.block _ hl]
  exact h
theorem CA_at {w : World} {A : Option Addr} {n : Nat} {rs : List (Int × List Tk)} (h : Kd.C kA w A n rs) (i : Nat) (h1 : i < n) : ∃ ad A1 c1, A = some ad ∧ w.cell? (ad.add (i * 2)) = some (.int .i64 (rs.getD i dA).1) ∧ w.cell? ⟨(ad.add (i * 2)).block, (ad.add (i * 2)).off + 1, none⟩ = some (.slice A1 (rs.getD i dA).2.length c1) ∧
    (rs.getD i dA).2.length ≤ c1 ∧ Kd.C kT w A1 (rs.getD i dA).2.length (rs.getD i dA).2 := by
  obtain ⟨ad, c, e, _, hK, hc0⟩ := Kd.C_get h dA (i : Int) (by omega) (by omega)
  simp only [Int.toNat_natCast] at hc0 hK
  have hc : ∀ j u, c[j]? = some u → w.cell? (ad.add (i * 2 + j)) = some u := hc0
  obtain ⟨A1, c1, rfl, l1, g1⟩ := kA_open hK
  exact ⟨ad, A1, c1, e, hc 0 _ rfl, by rw [← add_field _ _ 1 (by omega)]; exact hc 1 _ rfl, l1, g1⟩
theorem ans_at {rs bs : List (Int × List Tk)} (h : AnsAll rs bs) : ∀ i, i < rs.length → AnsEq (rs.getD i dA) (bs.getD i dA) := by
  induction h with
  | nil => intro i hi; simp at hi
  | cons e _ ih =>
    intro i hi
    cases i with
    | zero => exact e
    | succ i => exact ih i (by simpa using hi)
set_option maxHeartbeats 16000000 in
set_option maxRecDepth 100000 in
theorem sameAnswers_calls (rs bs : List (Int × List Tk)) (A : Option Addr) (c : Nat) (A' : Option Addr) (c' : Nat) (w : World) (hC : Kd.C kA w A rs.length rs) (hc : rs.length ≤ c) (hC' : Kd.C kA w A' bs.length bs) (hc' : bs.length ≤ c') (hl : rs.length ≤ 10000000) (hp : AnsAll rs bs)
    (hn : ∀ i, i < rs.length → ((rs.getD i dA).2.map (·.1)).Nodup ∧ (rs.getD i dA).2.length ≤ 10000000) :
    Calls Tryd.prog 10 #[.slice A rs.length c, .slice A' bs.length c'] w fun e w' => e = .returned (.bool true) ∧ Below w.heap.size w w' := by
  have hle := hp.len
  have HA := Aside0.mk (And.intro hC (And.intro hC' (And.intro hl (And.intro hp (And.intro hn hle)))))
  obtain ⟨n, hnn⟩ : ∃ n, n = rs.length := ⟨_, rfl⟩
  rw [← hle, ← hnn]
  have HN := Aside0.mk hnn
  clear hC hc hC' hc' hl hp hn hle hnn
  go_enter Tryd.func10, Tryd.ntmps10
  go_wp2_with fail
  go_loopw [5] (fun v5 wr => ∃ (i : Nat), v5 = .int .i64 (i : Int) ∧ Aside0 (i ≤ n) ∧ Aside0 (Below w.heap.size w wr)) (fun v5 _ => Road.leftOf n v5)
  case atStart => exact ⟨0, rfl, ⟨Nat.zero_le _⟩, ⟨Below.refl _ _⟩⟩
  case round =>
    obtain ⟨i, rfl, HI, HS⟩ := hrel
    rcases Nat.lt_or_ge i n with hi | hi
    · have i1 := eq_true (show (i : Int) < (n : Int) by omega)
      have i2 := eq_true hi
      obtain ⟨hC, hC', hl, hp, hn, hle⟩ := HA.out
      have hnr := HN.out
      have wi : wrap64 ((i : Int) + 1) = ((i + 1 : Nat) : Int) := Road.wrap_nat i (by omega)
      have HWI := Aside0.mk wi
      obtain ⟨a1, A1, c1, e1, ka1, ka2, hl1, hC1⟩ := CA_at hC i (by omega)
      obtain ⟨a2, A2, c2, e2, kb1, kb2, hl2, hC2⟩ := CA_at hC' i (by omega)
      obtain ⟨hk, hpm⟩ := ans_at hp i (by omega)
      obtain ⟨hnd, hlx⟩ := hn i (by omega)
      rw [← hk] at kb1
      obtain ⟨kd, hkd⟩ : ∃ x, x = (rs.getD i dA).1 := ⟨_, rfl⟩
      obtain ⟨xs, hxs⟩ : ∃ x, x = (rs.getD i dA).2 := ⟨_, rfl⟩
      obtain ⟨ys, hys⟩ : ∃ x, x = (bs.getD i dA).2 := ⟨_, rfl⟩
      rw [← hkd] at ka1 kb1
      rw [← hxs] at ka2 hl1 hC1 hpm hnd hlx
      rw [← hys] at kb2 hl2 hC2 hpm
      have HT := Aside0.mk (fun (wx : World) (hb : Below w.heap.size w wx) => sameTasks_calls xs ys A1 c1 A2 c2 wx (Kd.C_below hC1 hb) hl1 (Kd.C_below hC2 hb) hl2 hlx hpm hnd)
      have HK := Aside0.mk (And.intro ka1 (And.intro ka2 (And.intro kb1 kb2)))
      subst e1 e2
      clear hC hC' hl hp hn hle hnr wi hi ka1 ka2 kb1 kb2 hl1 hl2 hC1 hC2 hk hpm hnd hlx hkd hxs hys HA
      go_wp2_with fail
      refine start_ (n := 25) (S := fun w' => Below w.heap.size w w') (ds := []) #[false, false, false, false, false, false, false, false, false, false, false, false, false, false, false, false, false, false, false, false, false, false, false, false, false] (by kernel_rfl) rfl rfl (below_drew1 HS.out) (fun hHeld => ?_)
      have HBW := Aside0.mk (below_drew1 HS.out)
      generalize wr.drew = W0 at hHeld HBW ⊢
      refine pure_ (i := 0) (N := some 17) (v := ?_) (a' := ?_) #[true, false, false, false, false, false, false, false, false, false, false, false, false, false, false, false, false, false, false, false, false, false, false, false, false] rfl rfl (by kernel_rfl) (fun _ _ _ h => h) (Or.inl ⟨by rfl, ?_⟩) ?_ ?_
      rotate_left
      · intro w'
        go_simp
        with_reducible rfl
      rotate_left
      · simp only [Act.put, List.setIfInBounds_toArray, List.set_cons_zero, List.set_cons_succ, i64_w, i32_w]
        rfl
      refine pure_ (i := 1) (N := some 18) (v := ?_) (a' := ?_) #[true, true, false, false, false, false, false, false, false, false, false, false, false, false, false, false, false, false, false, false, false, false, false, false, false] rfl rfl (by kernel_rfl) (fun _ _ _ h => h) (Or.inl ⟨by rfl, ?_⟩) ?_ ?_
      rotate_left
      · intro w'
        go_simp
        with_reducible rfl
      rotate_left
      · simp only [Act.put, List.setIfInBounds_toArray, List.set_cons_zero, List.set_cons_succ, i64_w, i32_w]
        rfl
      refine pure_ (i := 2) (N := some 19) (v := ?_) (a' := ?_) #[true, true, true, false, false, false, false, false, false, false, false, false, false, false, false, false, false, false, false, false, false, false, false, false, false] rfl rfl (by kernel_rfl) (fun _ _ _ h => h) (Or.inl ⟨by rfl, ?_⟩) ?_ ?_
      rotate_left
      · intro w'
        go_simp
        with_reducible rfl
      rotate_left
      · simp only [Act.put, List.setIfInBounds_toArray, List.set_cons_zero, List.set_cons_succ, i64_w, i32_w]
        rfl
      refine pure_ (i := 3) (N := some 20) (v := ?_) (a' := ?_) #[true, true, true, true, false, false, false, false, false, false, false, false, false, false, false, false, false, false, false, false, false, false, false, false, false] rfl rfl (by kernel_rfl) (fun _ _ _ h => h) (Or.inl ⟨by rfl, ?_⟩) ?_ ?_
      rotate_left
      · intro w'
        go_simp
        with_reducible rfl
      rotate_left
      · simp only [Act.put, List.setIfInBounds_toArray, List.set_cons_zero, List.set_cons_succ, i64_w, i32_w]
        rfl
      refine take_ (i := 4) (N := some 21) (v := ?_) (a' := ?_) #[true, true, true, true, true, false, false, false, false, false, false, false, false, false, false, false, false, false, false, false, false, false, false, false, false] rfl rfl (by kernel_rfl) (fun _ _ _ h => h) (Or.inl ⟨by rfl, ?_⟩) hHeld ?_ ?_
      rotate_left
      · intro w' hS'
        have l1 := cellB hS' HK.out.1
        go_simp
        with_reducible rfl
      rotate_left
      · simp only [Act.put, List.setIfInBounds_toArray, List.set_cons_zero, List.set_cons_succ, i64_w, i32_w]
        rfl
      refine pure_ (i := 5) (N := some 22) (v := ?_) (a' := ?_) #[true, true, true, true, true, true, false, false, false, false, false, false, false, false, false, false, false, false, false, false, false, false, false, false, false] rfl rfl (by kernel_rfl) (fun _ _ _ h => h) (Or.inl ⟨by rfl, ?_⟩) ?_ ?_
      rotate_left
      · intro w'
        go_simp
        with_reducible rfl
      rotate_left
      · simp only [Act.put, List.setIfInBounds_toArray, List.set_cons_zero, List.set_cons_succ, i64_w, i32_w]
        rfl
      refine pure_ (i := 6) (N := some 23) (v := ?_) (a' := ?_) #[true, true, true, true, true, true, true, false, false, false, false, false, false, false, false, false, false, false, false, false, false, false, false, false, false] rfl rfl (by kernel_rfl) (fun _ _ _ h => h) (Or.inl ⟨by rfl, ?_⟩) ?_ ?_
      rotate_left
      · intro w'
        go_simp
        with_reducible rfl
      rotate_left
      · simp only [Act.put, List.setIfInBounds_toArray, List.set_cons_zero, List.set_cons_succ, i64_w, i32_w]
        rfl
      refine pure_ (i := 7) (N := some 24) (v := ?_) (a' := ?_) #[true, true, true, true, true, true, true, true, false, false, false, false, false, false, false, false, false, false, false, false, false, false, false, false, false] rfl rfl (by kernel_rfl) (fun _ _ _ h => h) (Or.inl ⟨by rfl, ?_⟩) ?_ ?_
      rotate_left
      · intro w'
        go_simp
        with_reducible rfl
      rotate_left
      · simp only [Act.put, List.setIfInBounds_toArray, List.set_cons_zero, List.set_cons_succ, i64_w, i32_w]
        rfl
      refine pure_ (i := 8) (N := some 25) (v := ?_) (a' := ?_) #[true, true, true, true, true, true, true, true, true, false, false, false, false, false, false, false, false, false, false, false, false, false, false, false, false] rfl rfl (by kernel_rfl) (fun _ _ _ h => h) (Or.inl ⟨by rfl, ?_⟩) ?_ ?_
      rotate_left
      · intro w'
        go_simp
        with_reducible rfl
      rotate_left
      · simp only [Act.put, List.setIfInBounds_toArray, List.set_cons_zero, List.set_cons_succ, i64_w, i32_w]
        rfl
      refine take_ (i := 9) (N := some 26) (v := ?_) (a' := ?_) #[true, true, true, true, true, true, true, true, true, true, false, false, false, false, false, false, false, false, false, false, false, false, false, false, false] rfl rfl (by kernel_rfl) (fun _ _ _ h => h) (Or.inl ⟨by rfl, ?_⟩) hHeld ?_ ?_
      rotate_left
      · intro w' hS'
        have l1 := cellB hS' HK.out.2.2.1
        go_simp
        with_reducible rfl
      rotate_left
      · simp only [Act.put, List.setIfInBounds_toArray, List.set_cons_zero, List.set_cons_succ, i64_w, i32_w]
        rfl
      refine pure_ (i := 10) (N := some 27) (v := ?_) (a' := ?_) #[true, true, true, true, true, true, true, true, true, true, true, false, false, false, false, false, false, false, false, false, false, false, false, false, false] rfl rfl (by kernel_rfl) (fun _ _ _ h => h) (Or.inl ⟨by rfl, ?_⟩) ?_ ?_
      rotate_left
      · intro w'
        go_simp
        with_reducible rfl
      rotate_left
      · simp only [Act.put, List.setIfInBounds_toArray, List.set_cons_zero, List.set_cons_succ, i64_w, i32_w]
        rfl
      refine pure_ (i := 11) (N := some 28) (v := ?_) (a' := ?_) #[true, true, true, true, true, true, true, true, true, true, true, true, false, false, false, false, false, false, false, false, false, false, false, false, false] rfl rfl (by kernel_rfl) (fun _ _ _ h => h) (Or.inl ⟨by rfl, ?_⟩) ?_ ?_
      rotate_left
      · intro w'
        go_simp
        with_reducible rfl
      rotate_left
      · simp only [Act.put, List.setIfInBounds_toArray, List.set_cons_zero, List.set_cons_succ, i64_w, i32_w]
        rfl
      refine pure_ (i := 12) (N := some 29) (v := ?_) (a' := ?_) #[true, true, true, true, true, true, true, true, true, true, true, true, true, false, false, false, false, false, false, false, false, false, false, false, false] rfl rfl (by kernel_rfl) (fun _ _ _ h => h) (Or.inl ⟨by rfl, ?_⟩) ?_ ?_
      rotate_left
      · intro w'
        go_simp
        with_reducible rfl
      rotate_left
      · simp only [Act.put, List.setIfInBounds_toArray, List.set_cons_zero, List.set_cons_succ, i64_w, i32_w]
        rfl
      refine pure_ (i := 13) (N := some 30) (v := ?_) (a' := ?_) #[true, true, true, true, true, true, true, true, true, true, true, true, true, true, false, false, false, false, false, false, false, false, false, false, false] rfl rfl (by kernel_rfl) (fun _ _ _ h => h) (Or.inl ⟨by rfl, ?_⟩) ?_ ?_
      rotate_left
      · intro w'
        go_simp
        with_reducible rfl
      rotate_left
      · simp only [Act.put, List.setIfInBounds_toArray, List.set_cons_zero, List.set_cons_succ, i64_w, i32_w]
        rfl
      refine pure_ (i := 14) (N := some 31) (v := ?_) (a' := ?_) #[true, true, true, true, true, true, true, true, true, true, true, true, true, true, true, false, false, false, false, false, false, false, false, false, false] rfl rfl (by kernel_rfl) (fun _ _ _ h => h) (Or.inl ⟨by rfl, ?_⟩) ?_ ?_
      rotate_left
      · intro w'
        go_simp
        with_reducible rfl
      rotate_left
      · simp only [Act.put, List.setIfInBounds_toArray, List.set_cons_zero, List.set_cons_succ, i64_w, i32_w]
        rfl
      refine pure_ (i := 15) (N := some 32) (v := ?_) (a' := ?_) #[true, true, true, true, true, true, true, true, true, true, true, true, true, true, true, true, false, false, false, false, false, false, false, false, false] rfl rfl (by kernel_rfl) (fun _ _ _ h => h) (Or.inl ⟨by rfl, ?_⟩) ?_ ?_
      rotate_left
      · intro w'
        go_simp
        with_reducible rfl
      rotate_left
      · simp only [Act.put, List.setIfInBounds_toArray, List.set_cons_zero, List.set_cons_succ, i64_w, i32_w]
        rfl
      refine take_ (i := 16) (N := some 33) (v := ?_) (a' := ?_) #[true, true, true, true, true, true, true, true, true, true, true, true, true, true, true, true, true, false, false, false, false, false, false, false, false] rfl rfl (by kernel_rfl) (fun _ _ _ h => h) (Or.inl ⟨by rfl, ?_⟩) hHeld ?_ ?_
      rotate_left
      · intro w' hS'
        have l1 := cellB hS' HK.out.2.1
        go_simp
        with_reducible rfl
      rotate_left
      · simp only [Act.put, List.setIfInBounds_toArray, List.set_cons_zero, List.set_cons_succ, i64_w, i32_w]
        rfl
      refine pure_ (i := 17) (N := some 34) (v := ?_) (a' := ?_) #[true, true, true, true, true, true, true, true, true, true, true, true, true, true, true, true, true, true, false, false, false, false, false, false, false] rfl rfl (by kernel_rfl) (fun _ _ _ h => h) (Or.inl ⟨by rfl, ?_⟩) ?_ ?_
      rotate_left
      · intro w'
        go_simp
        with_reducible rfl
      rotate_left
      · simp only [Act.put, List.setIfInBounds_toArray, List.set_cons_zero, List.set_cons_succ, i64_w, i32_w]
        rfl
      refine pure_ (i := 18) (N := some 35) (v := ?_) (a' := ?_) #[true, true, true, true, true, true, true, true, true, true, true, true, true, true, true, true, true, true, true, false, false, false, false, false, false] rfl rfl (by kernel_rfl) (fun _ _ _ h => h) (Or.inl ⟨by rfl, ?_⟩) ?_ ?_
      rotate_left
      · intro w'
        go_simp
        with_reducible rfl
      rotate_left
      · simp only [Act.put, List.setIfInBounds_toArray, List.set_cons_zero, List.set_cons_succ, i64_w, i32_w]
        rfl
      refine pure_ (i := 19) (N := some 36) (v := ?_) (a' := ?_) #[true, true, true, true, true, true, true, true, true, true, true, true, true, true, true, true, true, true, true, true, false, false, false, false, false] rfl rfl (by kernel_rfl) (fun _ _ _ h => h) (Or.inl ⟨by rfl, ?_⟩) ?_ ?_
      rotate_left
      · intro w'
        go_simp
        with_reducible rfl
      rotate_left
      · simp only [Act.put, List.setIfInBounds_toArray, List.set_cons_zero, List.set_cons_succ, i64_w, i32_w]
        rfl
      refine pure_ (i := 20) (N := some 37) (v := ?_) (a' := ?_) #[true, true, true, true, true, true, true, true, true, true, true, true, true, true, true, true, true, true, true, true, true, false, false, false, false] rfl rfl (by kernel_rfl) (fun _ _ _ h => h) (Or.inl ⟨by rfl, ?_⟩) ?_ ?_
      rotate_left
      · intro w'
        go_simp
        with_reducible rfl
      rotate_left
      · simp only [Act.put, List.setIfInBounds_toArray, List.set_cons_zero, List.set_cons_succ, i64_w, i32_w]
        rfl
      refine take_ (i := 21) (N := some 38) (v := ?_) (a' := ?_) #[true, true, true, true, true, true, true, true, true, true, true, true, true, true, true, true, true, true, true, true, true, true, false, false, false] rfl rfl (by kernel_rfl) (fun _ _ _ h => h) (Or.inl ⟨by rfl, ?_⟩) hHeld ?_ ?_
      rotate_left
      · intro w' hS'
        have l1 := cellB hS' HK.out.2.2.2
        go_simp
        with_reducible rfl
      rotate_left
      · simp only [Act.put, List.setIfInBounds_toArray, List.set_cons_zero, List.set_cons_succ, i64_w, i32_w]
        rfl
      refine one_ (i := 22) (N := some 39) #[true, true, true, true, true, true, true, true, true, true, true, true, true, true, true, true, true, true, true, true, true, true, true, false, false] rfl rfl (by kernel_rfl) (by decide) (fun K hK => ?_)
      refine goes_ Tryd.func21 (by kernel_rfl) rfl #[.slice A1 xs.length c1, .slice A2 ys.length c2] (by rfl) rfl rfl (by simp only [List.map_toArray, List.map_cons, List.map_nil]; rfl) ?_
      refine (HT.out W0 HBW.out).mono ?_
      rintro e w4 ⟨rfl, b4⟩
      refine ⟨_, rfl, ?_⟩
      have hS4 : Below w.heap.size w w4 := HBW.out.trans (b4.mono HBW.out.size)
      have HS4 := Aside0.mk hS4
      refine hK.out _ _ hS4 (fun hHeld => ?_)
      clear hK K
      refine norm_ (a' := ?_) ?_ ?_
      rotate_left
      · show Act.put _ (some 39) _ = _
        simp only [Act.put, List.setIfInBounds_toArray, List.set_cons_zero, List.set_cons_succ, i64_w, i32_w]
        rfl
      clear hS4 b4
      refine pure_ (i := 23) (N := some 40) (v := ?_) (a' := ?_) #[true, true, true, true, true, true, true, true, true, true, true, true, true, true, true, true, true, true, true, true, true, true, true, true, false] rfl rfl (by kernel_rfl) (fun _ _ _ h => h) (Or.inl ⟨by rfl, ?_⟩) ?_ ?_
      rotate_left
      · intro w'
        go_simp
        with_reducible rfl
      rotate_left
      · simp only [Act.put, List.setIfInBounds_toArray, List.set_cons_zero, List.set_cons_succ, i64_w, i32_w]
        rfl
      refine pure_ (i := 24) (N := some 41) (v := ?_) (a' := ?_) #[true, true, true, true, true, true, true, true, true, true, true, true, true, true, true, true, true, true, true, true, true, true, true, true, true] rfl rfl (by kernel_rfl) (fun _ _ _ h => h) (Or.inl ⟨by rfl, ?_⟩) ?_ ?_
      rotate_left
      · intro w'
        go_simp
        with_reducible rfl
      rotate_left
      · simp only [Act.put, List.setIfInBounds_toArray, List.set_cons_zero, List.set_cons_succ, i64_w, i32_w]
        rfl
      refine done_ (by kernel_rfl) ?_
      go_wp2_with fail
      go_roundw
      case rel => exact ⟨i + 1, congrArg (Value.int .i64) HWI.out, ⟨of_eq_true i2⟩, ⟨HS4.out⟩⟩
      case measure => rw [HWI.out]; exact Road.leftOf_lt (of_eq_true i2)
    · have i1 := eq_false (show ¬ (i : Int) < (n : Int) by omega)
      have i2 := eq_false (show ¬ i < n by omega)
      go_wp2_with fail
      go_ret
      exact ⟨rfl, HS.out⟩

end Go.Proofs.YtnkjlfadegjjoaaDoor.WhS
