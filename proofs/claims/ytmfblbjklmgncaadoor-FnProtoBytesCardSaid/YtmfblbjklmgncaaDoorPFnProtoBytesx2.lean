-- Written by hprint.py (this session's program, over the kit's printing program, with this session's own contracts in it). Not trusted: Lean checks it.
import Derived.Test.YtmfblbjklmgncaaDoorPFnProtoBytesx0
import Derived.Test.YtmfblbjklmgncaaDoorPFnProtoBytesx1
namespace Go.Proofs.YtmfblbjklmgncaaDoor.PFnProtoBytes
open Go.RowKit Go.Proofs.YtmfblbjklmgncaaDoorW.PrintWords Go.Proofs.YtmfblbjklmgncaaDoorW.PrintLast Go.Proofs.YtmfblbjklmgncaaDoorW.PrintMore
attribute [local go_sem] max2_int min2_int max_two min_two max_three min_three max_four min_four   -- for this text's walks alone
set_option linter.unusedVariables false
set_option linter.unusedSimpArgs false

/-! ### laws_sameBytes: function 13 -/
def laws_sameBytes.l0 : Nat → List Int → List Int → Int → Option (Bool)
  | 0, _, _, _ => none
  | k + 1, x0, x1, x5 => if x5 < (x0.length : Int) then (if 0 ≤ x5 then (if x5 < (x1.length : Int) then (if (rd x0 x5) = (rd x1 x5) then (laws_sameBytes.l0 k x0 x1 (wrap64 (x5 + 1))) else (some false)) else (none)) else (none)) else (some true)
def laws_sameBytes.f (k : Nat) (l0 : List Int) (l1 : List Int) : Option (Bool) := if (l0.length : Int) = (l1.length : Int) then (laws_sameBytes.l0 k l0 l1 0) else (some false)
theorem laws_sameBytes.mono_l : ∀ k, (∀ y0 y1 y2, LeO (laws_sameBytes.l0 k y0 y1 y2) (laws_sameBytes.l0 (k + 1) y0 y1 y2))
  | 0 => fun _ _ _ r h => by simp [laws_sameBytes.l0] at h
  | k + 1 => by
    have ih0 := laws_sameBytes.mono_l k
    · intro y0 y1 y2
      unfold laws_sameBytes.l0
      repeat' first
      | (with_reducible exact ih0 _ _ _)
      | (with_reducible exact LeO.refl _)
      | (with_reducible exact LeO.none _)
      | (with_reducible refine LeO.ite ?_ ?_)
      | (with_reducible refine LeO.bind ?_ (fun _ => ?_))
      | exact ih0 _ _ _
      | exact LeO.none _
      | refine LeO.ite ?_ ?_
      | refine LeO.bind ?_ (fun _ => ?_)
theorem laws_sameBytes.mono : ∀ a0 a1 k, LeO (laws_sameBytes.f k a0 a1) (laws_sameBytes.f (k + 1) a0 a1) := by
  intro a0 a1 k
  have ih0 := laws_sameBytes.mono_l k
  unfold laws_sameBytes.f
  repeat' first
      | (with_reducible exact ih0 _ _ _)
      | (with_reducible exact LeO.refl _)
      | (with_reducible exact LeO.none _)
      | (with_reducible refine LeO.ite ?_ ?_)
      | (with_reducible refine LeO.bind ?_ (fun _ => ?_))
      | exact ih0 _ _ _
      | exact LeO.none _
      | refine LeO.ite ?_ ?_
      | refine LeO.bind ?_ (fun _ => ?_)
set_option maxHeartbeats 8000000 in
set_option maxRecDepth 100000 in
theorem laws_sameBytes.calls (k : Nat) (A0 : Option Addr) (c0 : Nat) (l0 : List Int) (A1 : Option Addr) (c1 : Nat) (l1 : List Int) (r : Bool) (w : World) (hr0 : Kd.C (Kd.int .u8) w A0 l0.length l0) (hc0 : l0.length ≤ c0) (hr1 : Kd.C (Kd.int .u8) w A1 l1.length l1) (hc1 : l1.length ≤ c1) (h : laws_sameBytes.f k l0 l1 = some r) :
    Calls Tryd.prog 13 #[.slice A0 l0.length c0, .slice A1 l1.length c1] w fun e w' => e = .returned (.bool r) ∧ Drawn0 w w' := by
  have HR0 := Aside0.mk hr0
  have HC0 := Aside0.mk hc0
  clear hr0 hc0
  have HR1 := Aside0.mk hr1
  have HC1 := Aside0.mk hc1
  clear hr1 hc1
  have H : (if (l0.length : Int) = (l1.length : Int) then (laws_sameBytes.l0 k l0 l1 0) else (some false)) = some r := h
  clear h
  by_cases c3 : (l0.length : Int) = (l1.length : Int)
  · rw [if_pos c3] at H
    have c3b0 : ((l0.length : Int) == (l1.length : Int)) = true := beq_iff_eq.mpr c3
    have c3b1 : ((l0.length : Int) != (l1.length : Int)) = false := bne_eq_false_iff_eq.mpr c3
    have c3b2 : (l0.length == l1.length) = true := by first | simpa using c3 | (simp at c3 ⊢; omega)
    clear c3
    have H' := Aside0.mk H
    clear H
    go_enter Tryd.func13, Tryd.ntmps13
    go_wp2
    repeat (go_quiet (fail); try go_wp2)
    go_loopg [5] k (fun kq v5 w' => ∃ (x5_1 : Int), v5 = .int .i64 x5_1 ∧ Aside0 (laws_sameBytes.l0 kq l0 l1 x5_1 = some r) ∧ Aside0 (kq ≤ k) ∧ Drawn0 w w')
    case atStart => exact ⟨(0), (by first | rfl | (simp; done) | (simp [*]; done)), H', ⟨Nat.le_refl _⟩, by repeat (first | exact Drawn0.refl _ | apply Drawn0.step)⟩
    case round =>
      clear H'
      try clear c1
      try clear p2
      try clear c3
      try clear c3b0
      try clear c3b1
      try clear c3b2
      obtain ⟨x5_1, rfl, HA, HK1, ⟨m1, rfl⟩⟩ := hrel
      cases gk with
      | zero => exact absurd HA.out (by simp [laws_sameBytes.l0])
      | succ k1 =>
        have H := HA.out
        clear HA
        simp only [laws_sameBytes.l0] at H
        by_cases c4 : x5_1 < (l0.length : Int)
        · rw [if_pos c4] at H
          have c4b0 : decide (x5_1 < (l0.length : Int)) = true := decide_eq_true c4
          clear c4
          by_cases c5 : 0 ≤ x5_1
          · rw [if_pos c5] at H
            have c5b0 : decide (0 ≤ x5_1) = true := decide_eq_true c5
            clear c5
            by_cases c6 : x5_1 < (l1.length : Int)
            · rw [if_pos c6] at H
              have c6b0 : decide (x5_1 < (l1.length : Int)) = true := decide_eq_true c6
              clear c6
              by_cases c7 : (rd l0 x5_1) = (rd l1 x5_1)
              · rw [if_pos c7] at H
                have c7b0 : ((rd l0 x5_1) == (rd l1 x5_1)) = true := beq_iff_eq.mpr c7
                have c7b1 : ((rd l0 x5_1) != (rd l1 x5_1)) = false := bne_eq_false_iff_eq.mpr c7
                clear c7
                have H' := Aside0.mk H
                clear H
                have p117 : 0 ≤ (x5_1 : Int) := of_decide_eq_true (by first | (with_reducible assumption) | assumption)
                have q117 : x5_1 < (l0.length : Int) := of_decide_eq_true (by first | (with_reducible assumption) | assumption)
                obtain ⟨ad117, e117, hx117_0⟩ := Kd.at_int HR0.out x5_1 p117 q117
                cases e117
                replace p117 := eq_true p117
                replace q117 := eq_true q117
                have p118 : 0 ≤ (x5_1 : Int) := of_decide_eq_true (by first | (with_reducible assumption) | assumption)
                have q118 : x5_1 < (l1.length : Int) := of_decide_eq_true (by first | (with_reducible assumption) | assumption)
                obtain ⟨ad118, e118, hx118_0⟩ := Kd.at_int HR1.out x5_1 p118 q118
                cases e118
                replace p118 := eq_true p118
                replace q118 := eq_true q118
                go_wp2
                repeat (go_quiet (fail); try go_wp2)
                go_roundg k1
                case measure => have := HK1.out; omega
                case rel => exact ⟨(wrap64 (x5_1 + 1)), (by first | rfl | (simp; done) | (simp [*]; done)), H', ⟨by have := HK1.out; omega⟩, by repeat (first | exact Drawn0.refl _ | apply Drawn0.step)⟩
              · rw [if_neg c7] at H
                have c7b0 : ((rd l0 x5_1) == (rd l1 x5_1)) = false := beq_eq_false_iff_ne.mpr c7
                have c7b1 : ((rd l0 x5_1) != (rd l1 x5_1)) = true := bne_iff_ne.mpr c7
                obtain rfl := Option.some.inj H
                have p117 : 0 ≤ (x5_1 : Int) := of_decide_eq_true (by first | (with_reducible assumption) | assumption)
                have q117 : x5_1 < (l0.length : Int) := of_decide_eq_true (by first | (with_reducible assumption) | assumption)
                obtain ⟨ad117, e117, hx117_0⟩ := Kd.at_int HR0.out x5_1 p117 q117
                cases e117
                replace p117 := eq_true p117
                replace q117 := eq_true q117
                have p118 : 0 ≤ (x5_1 : Int) := of_decide_eq_true (by first | (with_reducible assumption) | assumption)
                have q118 : x5_1 < (l1.length : Int) := of_decide_eq_true (by first | (with_reducible assumption) | assumption)
                obtain ⟨ad118, e118, hx118_0⟩ := Kd.at_int HR1.out x5_1 p118 q118
                cases e118
                replace p118 := eq_true p118
                replace q118 := eq_true q118
                go_wp2
                repeat (go_quiet (fail); try go_wp2)
                go_ret
                exact ⟨by first | rfl | (simp; done) | (simp [*]; done) | (simp; generalize ByteArray.toList _ = l_; cases l_ <;> rfl), by repeat (first | exact Drawn0.refl _ | apply Drawn0.step)⟩
            · rw [if_neg c6] at H
              exact absurd H (by simp)
          · rw [if_neg c5] at H
            exact absurd H (by simp)
        · rw [if_neg c4] at H
          have c4b0 : decide (x5_1 < (l0.length : Int)) = false := decide_eq_false c4
          clear c4
          obtain rfl := Option.some.inj H
          go_wp2
          repeat (go_quiet (fail); try go_wp2)
          go_ret
          exact ⟨by first | rfl | (simp; done) | (simp [*]; done) | (simp; generalize ByteArray.toList _ = l_; cases l_ <;> rfl), by repeat (first | exact Drawn0.refl _ | apply Drawn0.step)⟩
  · rw [if_neg c3] at H
    have c3b0 : ((l0.length : Int) == (l1.length : Int)) = false := beq_eq_false_iff_ne.mpr c3
    have c3b1 : ((l0.length : Int) != (l1.length : Int)) = true := bne_iff_ne.mpr c3
    have c3b2 : (l0.length == l1.length) = false := by first | simpa using c3 | (simp at c3 ⊢; omega)
    obtain rfl := Option.some.inj H
    go_enter Tryd.func13, Tryd.ntmps13
    go_wp2
    repeat (go_quiet (fail); try go_wp2)
    go_ret
    exact ⟨by first | rfl | (simp; done) | (simp [*]; done) | (simp; generalize ByteArray.toList _ = l_; cases l_ <;> rfl), by repeat (first | exact Drawn0.refl _ | apply Drawn0.step)⟩

/-! ### laws_FnProtoBytes: function 3 -/
-- LAID YtmfblbjklmgncaaDoor.ProtoErrW.ErrLaid | ⟨⟨_, _, C0⟩, ⟨_, _, C1⟩⟩
section
open _root_.Go.Proofs.YtmfblbjklmgncaaDoor.Road ProtoW ProtoErrW ProtoBytesW
theorem same_loop (a : List Int) (hl : a.length ≤ 2147483648) (d : Nat) : ∀ i : Nat, i ≤ a.length → a.length - i = d → Ev (fun k => laws_sameBytes.l0 k a a (i : Int)) true := by
  induction d with
  | zero =>
    intro i h1 h2
    refine Ev.step (f := fun _ => some true) (fun k => ?_) (Ev.now _)
    simp only [laws_sameBytes.l0]
    rw [if_neg (by omega)]
  | succ d ih =>
    intro i h1 h2
    refine Ev.step (f := fun k => laws_sameBytes.l0 k a a ((i + 1 : Nat) : Int)) (fun k => ?_) (ih (i + 1) (by omega) (by omega))
    simp only [laws_sameBytes.l0]
    rw [if_pos (by omega), if_pos (by omega), if_pos (by omega), if_pos trivial, wrap_nat i (by omega)]
theorem same_ev (a : List Int) (hl : a.length ≤ 2147483648) : Ev (fun k => laws_sameBytes.f k a a) true := by
  have := same_loop a hl a.length 0 (by omega) (by omega)
  unfold laws_sameBytes.f
  simpa using this
theorem awakeProto_eq : laws_awakeProto.f = some true := by
  have e : impl_ProtoVarint.f [150, 1] = some (150, 2, 0) := by
    unfold impl_ProtoVarint.f
    rw [if_pos (by decide)]
    rfl
  unfold laws_awakeProto.f
  rw [e]
  rfl
theorem bytesV_bd (l : List Int) (v n : Int) (h : bytesV l = some (v, n)) : 0 ≤ v ∧ 0 ≤ n ∧ n + v ≤ l.length := by
  unfold bytesV at h
  cases hz : scanV 0 0 l with
  | none => rw [hz] at h; simp at h
  | some q =>
    obtain ⟨v2, n2⟩ := q
    rw [hz] at h
    simp only at h
    split at h
    · simp at h
    · rename_i hle
      simp only [Option.some.injEq, Prod.mk.injEq] at h
      obtain ⟨rfl, rfl⟩ := h
      have := scanV_size l 0 0 v2 n2 (by decide) hz
      omega
theorem row8_of_R {w : World} {base : Nat} {ok : Nat → Prop} {A : Option Addr} {c : Nat} {l : List Int} (h : Kd.R (Kd.int .u8) 5 w base ok (.slice A l.length c) l) (hb : ∀ x ∈ l, 0 ≤ x ∧ x < 256) (hs : l.length < 140737488355328) : Row8 w A c l := by
  have hrd := Kd.reads_of_C (enc := Value.int .u8) (d := (0 : Int)) (h1 := fun _ => rfl) (Kd.R_reads' h).2.2
  refine ⟨fun j hj => ?_, hb, (Kd.R_reads' h).2.1, hs⟩
  obtain ⟨ad, rfl, hc⟩ := hrd.2.2 (by omega)
  refine ⟨ad, rfl, ?_⟩
  rw [hc j hj]
  simp [List.getD_eq_getElem?_getD, hj]
theorem PB_none (A : Option Addr) (c : Nat) (l : List Int) (w : World) (h : Row8 w A c l) (hE : ErrLaid w) (hv : bytesV l = none) :
    Calls Tryd.prog 12 #[.slice A l.length c] w fun e w' => ∃ v0_ : Value, e = .returned (.tuple #[v0_, .int .i64 0, .int .i64 1]) ∧ Kd.R (Kd.int .u8) 5 w' w.heap.size (fun _ => True) v0_ [] ∧ Below w.heap.size w w' := by
  have := impl_ProtoBytes.walk A c l w h hE
  unfold protoB at this
  rw [hv] at this
  exact this
theorem PB_some (A : Option Addr) (c : Nat) (l : List Int) (v n : Int) (w : World) (h : Row8 w A c l) (hE : ErrLaid w) (hv : bytesV l = some (v, n)) :
    Calls Tryd.prog 12 #[.slice A l.length c] w fun e w' => ∃ v0_ : Value, e = .returned (.tuple #[v0_, .int .i64 (n + v), .int .i64 0]) ∧ Kd.R (Kd.int .u8) 5 w' w.heap.size (fun _ => True) v0_ ((l.drop n.toNat).take v.toNat) ∧ Below w.heap.size w w' := by
  have := impl_ProtoBytes.walk A c l w h hE
  unfold protoB at this
  rw [hv] at this
  exact this
def laws_FnProtoBytes.f (l0 : List Int) : Option Bool := if ∀ x ∈ l0, 0 ≤ x ∧ x < 256 then some true else none
set_option maxHeartbeats 8000000 in
set_option maxRecDepth 100000 in
theorem FnPB_long (A : Option Addr) (c : Nat) (l : List Int) (w : World) (h1 : 400 < l.length) :
    Calls Tryd.prog 3 #[.slice A l.length c] w fun e w' => e = .returned (.bool true) ∧ Below w.heap.size w w' := by
  have HB := Aside0.mk (Below.refl w.heap.size w)
  by_cases h2 : 2147483647 < l.length
  · have d1 : decide (2147483647 < (l.length : Int)) = true := decide_eq_true (by omega)
    have d2 : decide (2147483647 < l.length) = true := decide_eq_true h2
    clear h1 h2
    go_enter Tryd.func3, Tryd.ntmps3
    go_wp2
    go_ret
    exact ⟨rfl, by repeat (first | (with_reducible first | exact HB.out | apply below_alloc | apply pw_below_drewN | apply below_drew1) | exact HB.out)⟩
  · have d1 : decide (2147483647 < (l.length : Int)) = false := decide_eq_false (by omega)
    have d2 : decide (2147483647 < l.length) = false := decide_eq_false h2
    have d3 : decide (400 < (l.length : Int)) = true := decide_eq_true (by omega)
    have d4 : decide (400 < l.length) = true := decide_eq_true h1
    clear h1 h2
    go_enter Tryd.func3, Tryd.ntmps3
    go_wp2_with (((with_reducible refine gate_callee (f := 10) rfl ?_); refine goesL_ (some 15) rfl rfl Tryd.func10 (by kernel_rfl) rfl #[] rfl (by (try simp only [List.map_toArray, List.map_cons, List.map_nil]); first | done | rfl | (simp only [List.length_drop, List.length_take]; rfl)) ?_; (with_reducible refine (laws_awakeProto.calls true _ awakeProto_eq).mono ?_); rintro e w6 ⟨rfl, hb⟩; refine ⟨_, rfl, ?_⟩; have n0_ := Aside0.mk (below_step (by repeat (first | (with_reducible first | exact HB.out | apply below_alloc | apply pw_below_drewN | apply below_drew1) | exact HB.out)) hb); clear HB; have HB := n0_; clear n0_ hb))
    go_ret
    exact ⟨rfl, by repeat (first | (with_reducible first | exact HB.out | apply below_alloc | apply pw_below_drewN | apply below_drew1) | exact HB.out)⟩
set_option maxHeartbeats 8000000 in
set_option maxRecDepth 100000 in
theorem FnPB_none (A : Option Addr) (c : Nat) (l : List Int) (w : World) (hC : Kd.C (Kd.int .u8) w A l.length l) (hcp : l.length ≤ c) (hb : ∀ x ∈ l, 0 ≤ x ∧ x < 256) (hE : ErrLaid w) (h1 : l.length ≤ 400) (hv : bytesV l = none) :
    Calls Tryd.prog 3 #[.slice A l.length c] w fun e w' => e = .returned (.bool true) ∧ Below w.heap.size w w' := by
  have HB := Aside0.mk (Below.refl w.heap.size w)
  have d1 : decide (2147483647 < (l.length : Int)) = false := decide_eq_false (by omega)
  have d2 : decide (2147483647 < l.length) = false := decide_eq_false (by omega)
  have d3 : decide (400 < (l.length : Int)) = false := decide_eq_false (by omega)
  have d4 : decide (400 < l.length) = false := decide_eq_false (by omega)
  have HC := Aside0.mk hC
  have HP := Aside0.mk hcp
  have HBY := Aside0.mk hb
  have HE := Aside0.mk hE
  have HV := Aside0.mk hv
  have HL := Aside0.mk h1
  clear hC hcp hb hE hv h1
  go_enter Tryd.func3, Tryd.ntmps3
  go_wp2_with (first | ((with_reducible refine gate_callee (f := 11) rfl ?_); refine goesL_ (some 18) rfl rfl Tryd.func11 (by kernel_rfl) rfl #[.slice A l.length c] rfl (by (try simp only [List.map_toArray, List.map_cons, List.map_nil]); first | done | rfl | (simp only [List.length_drop, List.length_take]; rfl)) ?_; (with_reducible refine (spec_Bytes_none A c l _ HC.out HP.out HBY.out (by have := HL.out; omega) HV.out).mono ?_); rintro e w1 ⟨rfl, hb⟩; refine ⟨_, rfl, ?_⟩; have n0_ := Aside0.mk (below_step (by repeat (first | (with_reducible first | exact HB.out | apply below_alloc | apply pw_below_drewN | apply below_drew1) | exact HB.out)) hb.below); clear HB; have HB := n0_; clear n0_ hb) | ((with_reducible refine gate_dst (N := 23) rfl ?_); refine Kd.R_lit (Kd.int .u8) _ 5 ?hg (N := 23) ?hd (xs := []) (inner := []) (ok := fun _ => True) (okp := fun _ => True) ?hr ?hp (fun _ hk => hk) trivial (Below.refl _ _) (Nat.le_refl _) (by simp) ?_; (case hd => rfl); (case hg => rfl); (case hr => first | (go_simp; done) | (go_simp; rfl)); (case hp => exact (Reps.none _ _)); intro v1 w_ ho_ hb hg_ hnew_; clear hg_ hnew_; have n0_ := Aside0.mk (Kd.R_lower ho_ (below_size (by repeat (first | (with_reducible first | exact HB.out | apply below_alloc | apply pw_below_drewN | apply below_drew1) | exact HB.out)))); have n1_ := Aside0.mk (below_step (by repeat (first | (with_reducible first | exact HB.out | apply below_alloc | apply pw_below_drewN | apply below_drew1) | exact HB.out)) hb); clear HB; have HO1 := n0_; have HB := n1_; clear n0_ n1_; clear hb ho_) | ((with_reducible refine gate_builtin (b := .append) (xs := #[.tmp 23, .tmp 24]) rfl ?_); at_builtin; refine Kd.R_append_rows (Kd.int .u8) (w0 := w) w.heap.size rfl (.tmp 23) (.tmp 24) 22 5 (.int .u8 0) 1 rfl Tryd.underlying22 info5 rfl (by decide) (by omega) v1 [] l _ _ _ (fun _ => True) (fun _ => False) rfl rfl ?aO ?aR (fun _ _ h => h) (fun _ h => h.elim) ?aF ?aB ?aS ?aL ?_; (case aR => repeat (first | exact (Kd.C_below HC.out HB.out) | (with_reducible refine Kd.C_alloc ?_ _) | (with_reducible refine Kd.C_drewN ?_ _) | (with_reducible refine Kd.C_drew ?_))); (case aB => exact (by repeat (first | (with_reducible first | exact HB.out | apply below_alloc | apply pw_below_drewN | apply below_drew1) | exact HB.out))); (case aF => exact (fun _ _ => trivial)); (case aO => exact (by (with_reducible repeat (first | apply Kd.R_alloc | apply Kd.R_drewN | apply Kd.R_drew)); exact HO1.out)); (case aS => exact (below_size (by repeat (first | (with_reducible first | exact HB.out | apply below_alloc | apply pw_below_drewN | apply below_drew1) | exact HB.out)))); (case aL => have := HL.out; simp; omega); intro v2 w_ ho_ hb hg_ hat_; rw [List.nil_append] at ho_; have n0_ := Aside0.mk hb; have n1_ := Aside0.mk ho_; clear HB; clear HO1; have HB := n0_; have HO2 := n1_; clear n0_ n1_; clear ho_ hb hg_ hat_; obtain ⟨A2, c2, e2⟩ := Kd.R_slice HO2.out; subst e2) | ((with_reducible refine gate_callee (f := 12) rfl ?_); refine goesL_ (some 26) rfl rfl Tryd.func12 (by kernel_rfl) rfl #[.slice A2 l.length c2] rfl (by (try simp only [List.map_toArray, List.map_cons, List.map_nil]); first | done | rfl | (simp only [List.length_drop, List.length_take]; rfl)) ?_; (with_reducible refine (PB_none A2 c2 l _ (row8_of_R (by (with_reducible repeat (first | apply Kd.R_alloc | apply Kd.R_drewN | apply Kd.R_drew)); exact HO2.out) HBY.out (by have := HL.out; omega)) (HE.out.below (by repeat (first | (with_reducible first | exact HB.out | apply below_alloc | apply pw_below_drewN | apply below_drew1) | exact HB.out))) HV.out).mono ?_); rintro e w3 ⟨v3, rfl, ho, hb⟩; refine ⟨_, rfl, ?_⟩; have n0_ := Aside0.mk (below_step (by repeat (first | (with_reducible first | exact HB.out | apply below_alloc | apply pw_below_drewN | apply below_drew1) | exact HB.out)) hb); clear HB HO2; have HB := n0_; clear n0_ hb ho) | ((with_reducible refine gate_callee (f := 10) rfl ?_); (try (refine gate_guard (by rfl) ?_; dsimp only)); refine goesL_ (some 49) rfl rfl Tryd.func10 (by kernel_rfl) rfl #[] rfl (by (try simp only [List.map_toArray, List.map_cons, List.map_nil]); first | done | rfl | (simp only [List.length_drop, List.length_take]; rfl)) ?_; (with_reducible refine (laws_awakeProto.calls true _ awakeProto_eq).mono ?_); rintro e w6 ⟨rfl, hb⟩; refine ⟨_, rfl, ?_⟩; have n0_ := Aside0.mk (below_step (by repeat (first | (with_reducible first | exact HB.out | apply below_alloc | apply pw_below_drewN | apply below_drew1) | exact HB.out)) hb); clear HB; have HB := n0_; clear n0_ hb))
  go_ret
  exact ⟨rfl, by repeat (first | (with_reducible first | exact HB.out | apply below_alloc | apply pw_below_drewN | apply below_drew1) | exact HB.out)⟩
set_option maxHeartbeats 8000000 in
set_option maxRecDepth 100000 in
theorem FnPB_some (A : Option Addr) (c : Nat) (l : List Int) (v n : Int) (w : World) (hC : Kd.C (Kd.int .u8) w A l.length l) (hcp : l.length ≤ c) (hb : ∀ x ∈ l, 0 ≤ x ∧ x < 256) (hE : ErrLaid w) (h1 : l.length ≤ 400) (hv : bytesV l = Option.some (v, n)) :
    Calls Tryd.prog 3 #[.slice A l.length c] w fun e w' => e = .returned (.bool true) ∧ Below w.heap.size w w' := by
  have HB := Aside0.mk (Below.refl w.heap.size w)
  have d1 : decide (2147483647 < (l.length : Int)) = false := decide_eq_false (by omega)
  have d2 : decide (2147483647 < l.length) = false := decide_eq_false (by omega)
  have d3 : decide (400 < (l.length : Int)) = false := decide_eq_false (by omega)
  have d4 : decide (400 < l.length) = false := decide_eq_false (by omega)
  have hbd := bytesV_bd l v n hv
  obtain ⟨x, hx⟩ : ∃ x, x = (l.drop n.toNat).take v.toNat := ⟨_, rfl⟩
  have hxl : x.length ≤ 400 := by rw [hx]; simp; omega
  obtain ⟨ks, hks⟩ := Ev.rounds (same_ev x (by omega))
  have K1 := spec_Bytes_some A c l v n w hC hcp hb (by omega) hv
  unfold SpecB at K1
  rw [← hx] at K1
  have K2 : ∀ A c w, Row8 w A c l → ErrLaid w → _ := fun A c w h hE => PB_some A c l v n w h hE hv
  rw [← hx] at K2
  have HK1 := Aside0.mk K1
  have HK2 := Aside0.mk K2
  have HKS := Aside0.mk hks
  have HC := Aside0.mk hC
  have HP := Aside0.mk hcp
  have HBY := Aside0.mk hb
  have HE := Aside0.mk hE
  have HL := Aside0.mk h1
  clear hC hcp hb hE hv h1 K1 K2 hks hx hbd hxl
  go_enter Tryd.func3, Tryd.ntmps3
  go_wp2_with (first | ((with_reducible refine gate_callee (f := 11) rfl ?_); refine goesL_ (some 18) rfl rfl Tryd.func11 (by kernel_rfl) rfl #[.slice A l.length c] rfl (by (try simp only [List.map_toArray, List.map_cons, List.map_nil]); first | done | rfl | (simp only [List.length_drop, List.length_take]; rfl)) ?_; (with_reducible refine (HK1.out).mono ?_); rintro e w1 ⟨A5, c5, rfl, HQ, hb⟩; refine ⟨_, rfl, ?_⟩; have n0_ := Aside0.mk (below_step (by repeat (first | (with_reducible first | exact HB.out | apply below_alloc | apply pw_below_drewN | apply below_drew1) | exact HB.out)) hb.below); clear HB; have HB := n0_; clear n0_ hb) | ((with_reducible refine gate_dst (N := 23) rfl ?_); refine Kd.R_lit (Kd.int .u8) _ 5 ?hg (N := 23) ?hd (xs := []) (inner := []) (ok := fun _ => True) (okp := fun _ => True) ?hr ?hp (fun _ hk => hk) trivial (Below.refl _ _) (Nat.le_refl _) (by simp) ?_; (case hd => rfl); (case hg => rfl); (case hr => first | (go_simp; done) | (go_simp; rfl)); (case hp => exact (Reps.none _ _)); intro v1 w_ ho_ hb hg_ hnew_; clear hg_ hnew_; have n0_ := Aside0.mk (Kd.R_lower ho_ (below_size (by repeat (first | (with_reducible first | exact HB.out | apply below_alloc | apply pw_below_drewN | apply below_drew1) | exact HB.out)))); have n1_ := Aside0.mk (below_step (by repeat (first | (with_reducible first | exact HB.out | apply below_alloc | apply pw_below_drewN | apply below_drew1) | exact HB.out)) hb); clear HB; have HO1 := n0_; have HB := n1_; clear n0_ n1_; clear hb ho_) | ((with_reducible refine gate_builtin (b := .append) (xs := #[.tmp 23, .tmp 24]) rfl ?_); at_builtin; refine Kd.R_append_rows (Kd.int .u8) (w0 := w) w.heap.size rfl (.tmp 23) (.tmp 24) 22 5 (.int .u8 0) 1 rfl Tryd.underlying22 info5 rfl (by decide) (by omega) v1 [] l _ _ _ (fun _ => True) (fun _ => False) rfl rfl ?aO ?aR (fun _ _ h => h) (fun _ h => h.elim) ?aF ?aB ?aS ?aL ?_; (case aR => repeat (first | exact (Kd.C_below HC.out HB.out) | (with_reducible refine Kd.C_alloc ?_ _) | (with_reducible refine Kd.C_drewN ?_ _) | (with_reducible refine Kd.C_drew ?_))); (case aB => exact (by repeat (first | (with_reducible first | exact HB.out | apply below_alloc | apply pw_below_drewN | apply below_drew1) | exact HB.out))); (case aF => exact (fun _ _ => trivial)); (case aO => exact (by (with_reducible repeat (first | apply Kd.R_alloc | apply Kd.R_drewN | apply Kd.R_drew)); exact HO1.out)); (case aS => exact (below_size (by repeat (first | (with_reducible first | exact HB.out | apply below_alloc | apply pw_below_drewN | apply below_drew1) | exact HB.out)))); (case aL => have := HL.out; simp; omega); intro v2 w_ ho_ hb hg_ hat_; rw [List.nil_append] at ho_; have n0_ := Aside0.mk hb; have n1_ := Aside0.mk ho_; clear HB; clear HO1; have HB := n0_; have HO2 := n1_; clear n0_ n1_; clear ho_ hb hg_ hat_; obtain ⟨A2, c2, e2⟩ := Kd.R_slice HO2.out; subst e2) | ((with_reducible refine gate_callee (f := 12) rfl ?_); refine goesL_ (some 26) rfl rfl Tryd.func12 (by kernel_rfl) rfl #[.slice A2 l.length c2] rfl (by (try simp only [List.map_toArray, List.map_cons, List.map_nil]); first | done | rfl | (simp only [List.length_drop, List.length_take]; rfl)) ?_; (with_reducible refine (HK2.out A2 c2 _ (row8_of_R (by (with_reducible repeat (first | apply Kd.R_alloc | apply Kd.R_drewN | apply Kd.R_drew)); exact HO2.out) HBY.out (by have := HL.out; omega)) (HE.out.below (by repeat (first | (with_reducible first | exact HB.out | apply below_alloc | apply pw_below_drewN | apply below_drew1) | exact HB.out)))).mono ?_); rintro e w3 ⟨v3, rfl, ho, hb⟩; refine ⟨_, rfl, ?_⟩; have n1_ := Aside0.mk (Kd.R_lower ho (below_size (by repeat (first | (with_reducible first | exact HB.out | apply below_alloc | apply pw_below_drewN | apply below_drew1) | exact HB.out)))); have n0_ := Aside0.mk (below_step (by repeat (first | (with_reducible first | exact HB.out | apply below_alloc | apply pw_below_drewN | apply below_drew1) | exact HB.out)) hb); clear HB HO2; have HB := n0_; have HO3 := n1_; clear n0_ n1_ hb ho; obtain ⟨A3, c3, e3⟩ := Kd.R_slice HO3.out; subst e3) | ((with_reducible refine gate_callee (f := 13) rfl ?_); (try (refine gate_guard (by rfl) ?_; dsimp only)); refine goesL_ (some 40) rfl rfl Tryd.func13 (by kernel_rfl) rfl #[.slice A3 x.length c3, .slice A5 x.length c5] rfl (by (try simp only [List.map_toArray, List.map_cons, List.map_nil]); first | done | rfl | (simp only [List.length_drop, List.length_take]; rfl)) ?_; (with_reducible refine (laws_sameBytes.calls ks A3 c3 x A5 c5 x true _ (Kd.R_reads' (by (with_reducible repeat (first | apply Kd.R_alloc | apply Kd.R_drewN | apply Kd.R_drew)); exact HO3.out)).2.2 (Kd.R_reads' HO3.out).2.1 (Kd.C_below HQ.out.1 (by repeat (first | (with_reducible first | exact HB.out | apply below_alloc | apply pw_below_drewN | apply below_drew1) | exact HB.out))) HQ.out.2 HKS.out).mono ?_); rintro e w5 ⟨rfl, hb⟩; refine ⟨_, rfl, ?_⟩; have n0_ := Aside0.mk (below_step (by repeat (first | (with_reducible first | exact HB.out | apply below_alloc | apply pw_below_drewN | apply below_drew1) | exact HB.out)) hb.below); clear HB; have HB := n0_; clear n0_ hb) | ((with_reducible refine gate_callee (f := 10) rfl ?_); (try (refine gate_guard (by rfl) ?_; dsimp only)); refine goesL_ (some 49) rfl rfl Tryd.func10 (by kernel_rfl) rfl #[] rfl (by (try simp only [List.map_toArray, List.map_cons, List.map_nil]); first | done | rfl | (simp only [List.length_drop, List.length_take]; rfl)) ?_; (with_reducible refine (laws_awakeProto.calls true _ awakeProto_eq).mono ?_); rintro e w6 ⟨rfl, hb⟩; refine ⟨_, rfl, ?_⟩; have n0_ := Aside0.mk (below_step (by repeat (first | (with_reducible first | exact HB.out | apply below_alloc | apply pw_below_drewN | apply below_drew1) | exact HB.out)) hb); clear HB; have HB := n0_; clear n0_ hb))
  go_ret
  exact ⟨rfl, by repeat (first | (with_reducible first | exact HB.out | apply below_alloc | apply pw_below_drewN | apply below_drew1) | exact HB.out)⟩
theorem laws_FnProtoBytes.calls (A0 : Option Addr) (c0 : Nat) (l0 : List Int) (r : Bool) (w : World) (hr0 : Kd.C (Kd.int .u8) w A0 l0.length l0) (hc0 : l0.length ≤ c0) (h : laws_FnProtoBytes.f l0 = some r) (hE : ErrLaid w) :
    Calls Tryd.prog 3 #[.slice A0 l0.length c0] w fun e w' => e = .returned (.bool r) ∧ Below w.heap.size w w' := by
  unfold laws_FnProtoBytes.f at h
  split at h
  · rename_i hb
    obtain rfl := Option.some.inj h
    by_cases h1 : 400 < l0.length
    · exact FnPB_long A0 c0 l0 w h1
    · cases hv : bytesV l0 with
      | none => exact FnPB_none A0 c0 l0 w hr0 hc0 hb hE (by omega) hv
      | some p => exact FnPB_some A0 c0 l0 p.1 p.2 w hr0 hc0 hb hE (by omega) hv
  · exact absurd h (by simp)
end



/-- THE ONE PURE STATEMENT of laws_FnProtoBytes: yours. -/
def laws_FnProtoBytes.Pure : Prop := ∀ (l0 : List Int), l0.length ≤ maxLen → l0.length * 1 ≤ 140737488351232 → (∀ x ∈ l0, (Lit.int .u8 x).wf = true) → laws_FnProtoBytes.f l0 = some true
theorem laws_FnProtoBytes.walk (P : laws_FnProtoBytes.Pure) (a0 : Option Addr) (len0 cap0 : Nat) (z0 : List Int) (w : World) (w0 : (a0 = none ∧ len0 = 0 ∧ cap0 = 0 ∧ z0 = []) ∨ ∃ x, a0 = some x ∧ len0 ≤ cap0 ∧ cap0 ≤ maxLen ∧ z0.length = cap0 ∧ (∀ i, i < z0.length → w.cell? (x.add i) = some (.int .u8 (z0.getD i 0))) ∧ ∀ n ∈ z0, (Lit.int .u8 n).wf = true) (y0 : len0 * 1 ≤ 140737488351232) (hE_ : Go.Proofs.YtmfblbjklmgncaaDoor.ProtoErrW.ErrLaid w) :
    Calls Tryd.prog 3 #[.slice a0 len0 cap0] w fun e w' => e = .returned (.bool true) ∧ Below w.heap.size w w' := by
  obtain ⟨l0, rfl, hr0, hm0, hw0, hc0⟩ := ReadsInt.ofRowC w0
  have h := P l0 hm0 y0 hw0
  refine (laws_FnProtoBytes.calls _ _ l0 true w (Kd.C_of_reads (d := (0 : Int)) (h1 := fun _ => rfl) hr0) hc0 h hE_).mono ?_
  rintro e w' ⟨rfl, hd⟩
  exact ⟨rfl, hd⟩

end Go.Proofs.YtmfblbjklmgncaaDoor.PFnProtoBytes
