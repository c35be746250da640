-- Written by hprint.py (this session's program, over the kit's printing program, with this session's own contracts in it). Not trusted: Lean checks it.
import Derived.Test.YtmfblbjklmgncaaDoorPFnProtoBytesx0
namespace Go.Proofs.YtmfblbjklmgncaaDoor.PFnProtoBytes
open Go.RowKit Go.Proofs.YtmfblbjklmgncaaDoorW.PrintWords Go.Proofs.YtmfblbjklmgncaaDoorW.PrintLast Go.Proofs.YtmfblbjklmgncaaDoorW.PrintMore
attribute [local go_sem] max2_int min2_int max_two min_two max_three min_three max_four min_four   -- for this text's walks alone
set_option linter.unusedVariables false
set_option linter.unusedSimpArgs false

-- NOT PRINTED: function 52 (server_protoScanVarint)

-- NOT PRINTED: function 34 (server_ScanVarint)

/-! ### impl_one: function 36 -/
def impl_one.f (a0 : Option Int) : Option (Int) := if a0.isNone = true then (some 0) else (some 1)
set_option maxHeartbeats 8000000 in
set_option maxRecDepth 100000 in
theorem impl_one.calls (a0 : Option Int) (r : Int) (w : World) (h : impl_one.f a0 = some r) :
    Calls Tryd.prog 36 #[errW a0] w fun e w' => e = .returned (.int .i64 r) ∧ Drawn0 w w' := by
  have hu52 := Tryd.underlying52
  have H : (if a0.isNone = true then (some 0) else (some 1)) = some r := h
  clear h
  rcases a0 with _ | q101
  · have H1 : (some 0) = some r := by rw [if_pos (show (none : Option Int).isNone = true by rfl)] at H; exact H
    clear H
    have H := H1
    clear H1
    simp only [errW_none, errW_some]
    obtain rfl := Option.some.inj H
    go_enter Tryd.func36, Tryd.ntmps36
    go_wp2
    go_ret
    exact ⟨by first | rfl | (simp; done) | (simp [*]; done) | (simp; generalize ByteArray.toList _ = l_; cases l_ <;> rfl), by repeat (first | exact Drawn0.refl _ | apply Drawn0.step)⟩
  · have H1 : (some 1) = some r := by rw [if_neg (show ¬ (some q101).isNone = true by simp)] at H; exact H
    clear H
    have H := H1
    clear H1
    simp only [errW_none, errW_some]
    obtain rfl := Option.some.inj H
    go_enter Tryd.func36, Tryd.ntmps36
    go_wp2
    go_ret
    exact ⟨by first | rfl | (simp; done) | (simp [*]; done) | (simp; generalize ByteArray.toList _ = l_; cases l_ <;> rfl), by repeat (first | exact Drawn0.refl _ | apply Drawn0.step)⟩

/-! ### impl_ProtoVarint: function 19 -/
theorem varint_one (w : World) : Calls Tryd.prog 36 #[.nilIface] w fun e w' => e = .returned (.int .i64 0) ∧ w' = w := by
  go_enter Tryd.func36, Tryd.ntmps36
  go_wp2
  go_ret
  exact ⟨rfl, rfl⟩
theorem varint_door (ad : Addr) (L c : Nat) (l : List Int) (v n : Int) (w : World) (hl : l.length ≤ L) (hc : ∀ j (hj : j < l.length), w.cell? (ad.add j) = some (.int .u8 l[j])) (hb : ∀ x ∈ l, 0 ≤ x ∧ x < 256) (h : ProtoW.scanV 0 0 l = some (v, n)) :
    Calls Tryd.prog 34 #[.slice (some ad) L c] w fun e w' => e = .returned (.tuple #[.int .u64 v, .int .i64 n, .nilIface]) ∧ Below w.heap.size w w' := by
  go_enter Tryd.func34, Tryd.ntmps34
  go_wp2_with fail
  refine (ProtoW.scan_walk ad L c l v n w hl hc hb h).mono ?_
  rintro e w1 ⟨rfl, hb1⟩
  go_wp2_with fail
  go_ret3
  exact ⟨rfl, hb1⟩
def impl_ProtoVarint.f (l0 : List Int) : Option ((Int) × (Int) × (Int)) := if ∀ x ∈ l0, 0 ≤ x ∧ x < 256 then (ProtoW.scanV 0 0 l0).map fun r => (r.1, r.2, 0) else none
set_option maxHeartbeats 8000000 in
set_option maxRecDepth 100000 in
theorem impl_ProtoVarint.calls (A0 : Option Addr) (c0 : Nat) (l0 : List Int) (r1 : Int) (r2 : Int) (r3 : Int) (w : World) (hr0 : Kd.C (Kd.int .u8) w A0 l0.length l0) (hc0 : l0.length ≤ c0) (h : impl_ProtoVarint.f l0 = some (r1, r2, r3)) :
    Calls Tryd.prog 19 #[.slice A0 l0.length c0] w fun e w' => e = .returned (.tuple #[.int .u64 r1, .int .i64 r2, .int .i64 r3]) ∧ Below w.heap.size w w' := by
  unfold impl_ProtoVarint.f at h
  split at h
  · rename_i hb
    obtain ⟨⟨v, n⟩, hs, e⟩ := Option.map_eq_some_iff.1 h
    simp only [Prod.mk.injEq] at e
    obtain ⟨rfl, rfl, rfl⟩ := e
    have hne : l0 ≠ [] := by intro e; rw [e] at hs; simp [ProtoW.scanV] at hs
    have hrd := Kd.reads_of_C (enc := Value.int .u8) (d := (0 : Int)) (h1 := fun _ => rfl) hr0
    obtain ⟨ad, rfl, hcell⟩ := hrd.2.2 (List.length_pos_iff.2 hne)
    have hcl : ∀ j (hj : j < l0.length), w.cell? (ad.add j) = some (.int .u8 l0[j]) := fun j hj => by
      rw [hcell j hj]
      simp [List.getD_eq_getElem?_getD, hj]
    have HB := Aside0.mk hb
    have HS := Aside0.mk hs
    have HCL := Aside0.mk hcl
    clear h hb hs hcl hcell hrd hr0 hc0 hne
    go_enter Tryd.func19, Tryd.ntmps19
    go_wp2_with fail
    refine (varint_door ad l0.length c0 l0 v n w (Nat.le_refl _) HCL.out HB.out HS.out).mono ?_
    rintro e w1 ⟨rfl, hb1⟩
    go_wp2_with fail
    refine (varint_one w1).mono ?_
    rintro e w2 ⟨rfl, rfl⟩
    go_wp2_with fail
    go_ret3
    exact ⟨rfl, hb1⟩
  · exact absurd h (by simp)


/-! ### laws_awakeProto: function 10 -/
def laws_awakeProto.f  : Option (Bool) := (impl_ProtoVarint.f (([150, 1] : List Int))).bind fun bt105 => (if bt105.1 = 150 then (if bt105.2.1 = 2 then (some (bt105.2.2 == 0)) else (some false)) else (some false))
set_option maxHeartbeats 8000000 in
set_option maxRecDepth 100000 in
theorem laws_awakeProto.calls  (r : Bool) (w : World) (h : laws_awakeProto.f  = some r) :
    Calls Tryd.prog 10 #[] w fun e w' => e = .returned (.bool r) ∧ Below w.heap.size w w' := by
  have HB := Aside0.mk (Below.refl w.heap.size w)
  have H : ((impl_ProtoVarint.f (([150, 1] : List Int))).bind fun bt105 => (if bt105.1 = 150 then (if bt105.2.1 = 2 then (some (bt105.2.2 == 0)) else (some false)) else (some false))) = some r := h
  clear h
  obtain ⟨y102, hy102⟩ : ∃ y_ : List Int, y_ = (([150, 1] : List Int)) := ⟨_, rfl⟩
  replace H : ((impl_ProtoVarint.f y102).bind fun bt105 => (if bt105.1 = 150 then (if bt105.2.1 = 2 then (some (bt105.2.2 == 0)) else (some false)) else (some false))) = some r := by first | (rw [hy102]; with_reducible exact H) | (have H2_ := (Option.bind_some _ _).symm.trans H; rw [hy102]; with_reducible exact H2_) | (have H2_ := (Option.bind_some _ _).symm.trans H; with_reducible exact H2_) | with_reducible exact H | (rw [hy102]; exact H) | exact H
  have Ny102 := Aside0.mk hy102
  clear hy102
  replace H := Option.bind_eq_some_iff.mp H
  obtain ⟨⟨t105, t106, t107⟩, A10, H⟩ := H
  replace H : (if t105 = 150 then (if t106 = 2 then (some (t107 == 0)) else (some false)) else (some false)) = some r := H
  have A1 := Aside0.mk A10
  clear A10
  by_cases c2 : t105 = 150
  · rw [if_pos c2] at H
    have c2b0 : (t105 == 150) = true := beq_iff_eq.mpr c2
    have c2b1 : (t105 != 150) = false := bne_eq_false_iff_eq.mpr c2
    clear c2
    by_cases c3 : t106 = 2
    · rw [if_pos c3] at H
      have c3b0 : (t106 == 2) = true := beq_iff_eq.mpr c3
      have c3b1 : (t106 != 2) = false := bne_eq_false_iff_eq.mpr c3
      clear c3
      obtain rfl := Option.some.inj H
      go_enter Tryd.func10, Tryd.ntmps10
      go_wp2_with (first | ((with_reducible refine gate_dst (N := 5) rfl ?_); refine Kd.R_lit (Kd.int .u8) _ 5 ?hg (N := 5) ?hd (xs := ([150, 1] : List Int)) (inner := [.int .u8 150, .int .u8 1]) (ok := fun _ => True) (okp := fun _ => True) ?hr ?hp (fun _ hk => hk) trivial (Below.refl _ _) (Nat.le_refl _) (by simp) ?_; (case hd => rfl); (case hg => rfl); (case hr => first | (go_simp; done) | (go_simp; rfl)); (case hp => exact (Reps.one (show Kd.M (Kd.int .u8) _ _ _ 150 [.int .u8 150] from rfl) (Reps.one (show Kd.M (Kd.int .u8) _ _ _ 1 [.int .u8 1] from rfl) (Reps.none _ _)))); intro v103 w4 ho5 hb hg_ hnew_; clear hg_ hnew_; (first | rw [← Ny102.out] at ho5 | (simp only [Int.reduceToNat] at ho5; rw [← Ny102.out] at ho5)); have n0_ := Aside0.mk (Kd.R_lower ho5 (below_size (by repeat (first | (with_reducible first | exact HB.out | apply below_alloc | apply pw_below_drewN | apply below_drew1) | exact HB.out)))); have n1_ := Aside0.mk (below_step (by repeat (first | (with_reducible first | exact HB.out | apply below_alloc | apply pw_below_drewN | apply below_drew1) | exact HB.out)) hb); clear HB; have HO104 := n0_; have HB := n1_; clear n0_ n1_; clear hb ho5; obtain ⟨Ao6, co6, eo6⟩ := Kd.R_slice HO104.out; subst eo6) | ((with_reducible refine gate_callee (f := 19) rfl ?_); refine goesL_ (some 6) rfl rfl Tryd.func19 (by kernel_rfl) rfl #[.slice Ao6 y102.length co6] rfl (by (try simp only [List.map_toArray, List.map_cons, List.map_nil]); first | done | rfl | (simp only [List.length_drop, List.length_take]; rfl)) ?_; (with_reducible refine (impl_ProtoVarint.calls _ _ y102 t105 t106 t107 _ ?side1 ?side2 A1.out).mono ?_); (case side1 => repeat (first | exact (Kd.R_reads' HO104.out).2.2 | (with_reducible refine Kd.C_alloc ?_ _) | (with_reducible refine Kd.C_drewN ?_ _) | (with_reducible refine Kd.C_drew ?_))); (case side2 => exact (Kd.R_reads' HO104.out).2.1); rintro e w7 ⟨rfl, hb⟩; refine ⟨_, rfl, ?_⟩; have n0_ := Aside0.mk (Kd.R_below (by (with_reducible repeat (first | apply Kd.R_alloc | apply Kd.R_drewN | apply Kd.R_drew)); exact HO104.out) hb); have n1_ := Aside0.mk (below_step (by repeat (first | (with_reducible first | exact HB.out | apply below_alloc | apply pw_below_drewN | apply below_drew1) | exact HB.out)) hb); clear HO104; clear HB; have HO104 := n0_; have HB := n1_; clear n0_ n1_; (try clear hb); (try clear hb2); (try clear hk); (try clear hi)))
      go_ret
      exact ⟨by first | rfl | (simp [errW_none, errW_some] <;> rfl) | (simp [*, errW_none, errW_some] <;> rfl) | (simp [errW_none, errW_some]; generalize ByteArray.toList _ = l_; cases l_ <;> rfl), by repeat (first | (with_reducible first | exact HB.out | apply below_alloc | apply pw_below_drewN | apply below_drew1) | exact HB.out)⟩
    · rw [if_neg c3] at H
      have c3b0 : (t106 == 2) = false := beq_eq_false_iff_ne.mpr c3
      have c3b1 : (t106 != 2) = true := bne_iff_ne.mpr c3
      obtain rfl := Option.some.inj H
      go_enter Tryd.func10, Tryd.ntmps10
      go_wp2_with (first | ((with_reducible refine gate_dst (N := 5) rfl ?_); refine Kd.R_lit (Kd.int .u8) _ 5 ?hg (N := 5) ?hd (xs := ([150, 1] : List Int)) (inner := [.int .u8 150, .int .u8 1]) (ok := fun _ => True) (okp := fun _ => True) ?hr ?hp (fun _ hk => hk) trivial (Below.refl _ _) (Nat.le_refl _) (by simp) ?_; (case hd => rfl); (case hg => rfl); (case hr => first | (go_simp; done) | (go_simp; rfl)); (case hp => exact (Reps.one (show Kd.M (Kd.int .u8) _ _ _ 150 [.int .u8 150] from rfl) (Reps.one (show Kd.M (Kd.int .u8) _ _ _ 1 [.int .u8 1] from rfl) (Reps.none _ _)))); intro v103 w8 ho9 hb hg_ hnew_; clear hg_ hnew_; (first | rw [← Ny102.out] at ho9 | (simp only [Int.reduceToNat] at ho9; rw [← Ny102.out] at ho9)); have n0_ := Aside0.mk (Kd.R_lower ho9 (below_size (by repeat (first | (with_reducible first | exact HB.out | apply below_alloc | apply pw_below_drewN | apply below_drew1) | exact HB.out)))); have n1_ := Aside0.mk (below_step (by repeat (first | (with_reducible first | exact HB.out | apply below_alloc | apply pw_below_drewN | apply below_drew1) | exact HB.out)) hb); clear HB; have HO104 := n0_; have HB := n1_; clear n0_ n1_; clear hb ho9; obtain ⟨Ao10, co10, eo10⟩ := Kd.R_slice HO104.out; subst eo10) | ((with_reducible refine gate_callee (f := 19) rfl ?_); refine goesL_ (some 6) rfl rfl Tryd.func19 (by kernel_rfl) rfl #[.slice Ao10 y102.length co10] rfl (by (try simp only [List.map_toArray, List.map_cons, List.map_nil]); first | done | rfl | (simp only [List.length_drop, List.length_take]; rfl)) ?_; (with_reducible refine (impl_ProtoVarint.calls _ _ y102 t105 t106 t107 _ ?side1 ?side2 A1.out).mono ?_); (case side1 => repeat (first | exact (Kd.R_reads' HO104.out).2.2 | (with_reducible refine Kd.C_alloc ?_ _) | (with_reducible refine Kd.C_drewN ?_ _) | (with_reducible refine Kd.C_drew ?_))); (case side2 => exact (Kd.R_reads' HO104.out).2.1); rintro e w11 ⟨rfl, hb⟩; refine ⟨_, rfl, ?_⟩; have n0_ := Aside0.mk (Kd.R_below (by (with_reducible repeat (first | apply Kd.R_alloc | apply Kd.R_drewN | apply Kd.R_drew)); exact HO104.out) hb); have n1_ := Aside0.mk (below_step (by repeat (first | (with_reducible first | exact HB.out | apply below_alloc | apply pw_below_drewN | apply below_drew1) | exact HB.out)) hb); clear HO104; clear HB; have HO104 := n0_; have HB := n1_; clear n0_ n1_; (try clear hb); (try clear hb2); (try clear hk); (try clear hi)))
      go_ret
      exact ⟨by first | rfl | (simp [errW_none, errW_some] <;> rfl) | (simp [*, errW_none, errW_some] <;> rfl) | (simp [errW_none, errW_some]; generalize ByteArray.toList _ = l_; cases l_ <;> rfl), by repeat (first | (with_reducible first | exact HB.out | apply below_alloc | apply pw_below_drewN | apply below_drew1) | exact HB.out)⟩
  · rw [if_neg c2] at H
    have c2b0 : (t105 == 150) = false := beq_eq_false_iff_ne.mpr c2
    have c2b1 : (t105 != 150) = true := bne_iff_ne.mpr c2
    obtain rfl := Option.some.inj H
    go_enter Tryd.func10, Tryd.ntmps10
    go_wp2_with (first | ((with_reducible refine gate_dst (N := 5) rfl ?_); refine Kd.R_lit (Kd.int .u8) _ 5 ?hg (N := 5) ?hd (xs := ([150, 1] : List Int)) (inner := [.int .u8 150, .int .u8 1]) (ok := fun _ => True) (okp := fun _ => True) ?hr ?hp (fun _ hk => hk) trivial (Below.refl _ _) (Nat.le_refl _) (by simp) ?_; (case hd => rfl); (case hg => rfl); (case hr => first | (go_simp; done) | (go_simp; rfl)); (case hp => exact (Reps.one (show Kd.M (Kd.int .u8) _ _ _ 150 [.int .u8 150] from rfl) (Reps.one (show Kd.M (Kd.int .u8) _ _ _ 1 [.int .u8 1] from rfl) (Reps.none _ _)))); intro v103 w12 ho13 hb hg_ hnew_; clear hg_ hnew_; (first | rw [← Ny102.out] at ho13 | (simp only [Int.reduceToNat] at ho13; rw [← Ny102.out] at ho13)); have n0_ := Aside0.mk (Kd.R_lower ho13 (below_size (by repeat (first | (with_reducible first | exact HB.out | apply below_alloc | apply pw_below_drewN | apply below_drew1) | exact HB.out)))); have n1_ := Aside0.mk (below_step (by repeat (first | (with_reducible first | exact HB.out | apply below_alloc | apply pw_below_drewN | apply below_drew1) | exact HB.out)) hb); clear HB; have HO104 := n0_; have HB := n1_; clear n0_ n1_; clear hb ho13; obtain ⟨Ao14, co14, eo14⟩ := Kd.R_slice HO104.out; subst eo14) | ((with_reducible refine gate_callee (f := 19) rfl ?_); refine goesL_ (some 6) rfl rfl Tryd.func19 (by kernel_rfl) rfl #[.slice Ao14 y102.length co14] rfl (by (try simp only [List.map_toArray, List.map_cons, List.map_nil]); first | done | rfl | (simp only [List.length_drop, List.length_take]; rfl)) ?_; (with_reducible refine (impl_ProtoVarint.calls _ _ y102 t105 t106 t107 _ ?side1 ?side2 A1.out).mono ?_); (case side1 => repeat (first | exact (Kd.R_reads' HO104.out).2.2 | (with_reducible refine Kd.C_alloc ?_ _) | (with_reducible refine Kd.C_drewN ?_ _) | (with_reducible refine Kd.C_drew ?_))); (case side2 => exact (Kd.R_reads' HO104.out).2.1); rintro e w15 ⟨rfl, hb⟩; refine ⟨_, rfl, ?_⟩; have n0_ := Aside0.mk (Kd.R_below (by (with_reducible repeat (first | apply Kd.R_alloc | apply Kd.R_drewN | apply Kd.R_drew)); exact HO104.out) hb); have n1_ := Aside0.mk (below_step (by repeat (first | (with_reducible first | exact HB.out | apply below_alloc | apply pw_below_drewN | apply below_drew1) | exact HB.out)) hb); clear HO104; clear HB; have HO104 := n0_; have HB := n1_; clear n0_ n1_; (try clear hb); (try clear hb2); (try clear hk); (try clear hi)))
    go_ret
    exact ⟨by first | rfl | (simp [errW_none, errW_some] <;> rfl) | (simp [*, errW_none, errW_some] <;> rfl) | (simp [errW_none, errW_some]; generalize ByteArray.toList _ = l_; cases l_ <;> rfl), by repeat (first | (with_reducible first | exact HB.out | apply below_alloc | apply pw_below_drewN | apply below_drew1) | exact HB.out)⟩

/-! ### spec_Varint: function 32 -/
mutual
def spec_Varint.l0 : Nat → List Int → Int → Int → Option (Int × Int × Bool)
  | 0, _, _, _ => none
  | k + 1, x0, x5, x6 => if x6 < (x0.length : Int) then (spec_Varint.j1 k x0 x5 x6 (decide (x6 < 10))) else (spec_Varint.j1 k x0 x5 x6 false)
def spec_Varint.j1 : Nat → List Int → Int → Int → Bool → Option (Int × Int × Bool)
  | 0, _, _, _, _ => none
  | k + 1, x0, x5, x6, x14 => if x14 = true then (if x6 = 9 then (if 0 ≤ x6 then (if x6 < (x0.length : Int) then (spec_Varint.j2 k x0 x5 x6 (decide ((rd x0 x6) > 1))) else (none)) else (none)) else (spec_Varint.j2 k x0 x5 x6 false)) else (some (0, 0, false))
def spec_Varint.j2 : Nat → List Int → Int → Int → Bool → Option (Int × Int × Bool)
  | 0, _, _, _, _ => none
  | k + 1, x0, x5, x6, x25 => if x25 = true then (some (0, 0, false)) else (if 0 ≤ x6 then (if x6 < (x0.length : Int) then (if 0 ≤ (IntKind.u64.wrap (7 * (IntKind.u64.wrap (x6)))) then (if (rd x0 x6) < 128 then (some (IntKind.u64.wrap (x5 + (shl .u64 (IntKind.u64.wrap (Int.tmod (rd x0 x6) 128)) (IntKind.u64.wrap (7 * (IntKind.u64.wrap (x6)))))), wrap64 (x6 + 1), true)) else (spec_Varint.l0 k x0 (IntKind.u64.wrap (x5 + (shl .u64 (IntKind.u64.wrap (Int.tmod (rd x0 x6) 128)) (IntKind.u64.wrap (7 * (IntKind.u64.wrap (x6))))))) (wrap64 (x6 + 1)))) else (none)) else (none)) else (none))
end
def spec_Varint.f (k : Nat) (l0 : List Int) : Option (Int × Int × Bool) := spec_Varint.l0 k l0 0 0
theorem spec_Varint.mono_l : ∀ k, (∀ y0 y1 y2, LeO (spec_Varint.l0 k y0 y1 y2) (spec_Varint.l0 (k + 1) y0 y1 y2)) ∧ (∀ y0 y1 y2 y3, LeO (spec_Varint.j1 k y0 y1 y2 y3) (spec_Varint.j1 (k + 1) y0 y1 y2 y3)) ∧ (∀ y0 y1 y2 y3, LeO (spec_Varint.j2 k y0 y1 y2 y3) (spec_Varint.j2 (k + 1) y0 y1 y2 y3))
  | 0 => ⟨fun _ _ _ r h => by simp [spec_Varint.l0] at h, fun _ _ _ _ r h => by simp [spec_Varint.j1] at h, fun _ _ _ _ r h => by simp [spec_Varint.j2] at h⟩
  | k + 1 => by
    obtain ⟨ih0, ih1, ih2⟩ := spec_Varint.mono_l k
    refine ⟨?_, ?_, ?_⟩
    · intro y0 y1 y2
      unfold spec_Varint.l0
      repeat' first
      | (with_reducible exact ih0 _ _ _)
      | (with_reducible exact ih1 _ _ _ _)
      | (with_reducible exact ih2 _ _ _ _)
      | (with_reducible exact LeO.refl _)
      | (with_reducible exact LeO.none _)
      | (with_reducible refine LeO.ite ?_ ?_)
      | (with_reducible refine LeO.bind ?_ (fun _ => ?_))
      | exact ih0 _ _ _
      | exact ih1 _ _ _ _
      | exact ih2 _ _ _ _
      | exact LeO.none _
      | refine LeO.ite ?_ ?_
      | refine LeO.bind ?_ (fun _ => ?_)
    · intro y0 y1 y2 y3
      unfold spec_Varint.j1
      repeat' first
      | (with_reducible exact ih0 _ _ _)
      | (with_reducible exact ih1 _ _ _ _)
      | (with_reducible exact ih2 _ _ _ _)
      | (with_reducible exact LeO.refl _)
      | (with_reducible exact LeO.none _)
      | (with_reducible refine LeO.ite ?_ ?_)
      | (with_reducible refine LeO.bind ?_ (fun _ => ?_))
      | exact ih0 _ _ _
      | exact ih1 _ _ _ _
      | exact ih2 _ _ _ _
      | exact LeO.none _
      | refine LeO.ite ?_ ?_
      | refine LeO.bind ?_ (fun _ => ?_)
    · intro y0 y1 y2 y3
      unfold spec_Varint.j2
      repeat' first
      | (with_reducible exact ih0 _ _ _)
      | (with_reducible exact ih1 _ _ _ _)
      | (with_reducible exact ih2 _ _ _ _)
      | (with_reducible exact LeO.refl _)
      | (with_reducible exact LeO.none _)
      | (with_reducible refine LeO.ite ?_ ?_)
      | (with_reducible refine LeO.bind ?_ (fun _ => ?_))
      | exact ih0 _ _ _
      | exact ih1 _ _ _ _
      | exact ih2 _ _ _ _
      | exact LeO.none _
      | refine LeO.ite ?_ ?_
      | refine LeO.bind ?_ (fun _ => ?_)
theorem spec_Varint.mono : ∀ a0 k, LeO (spec_Varint.f k a0) (spec_Varint.f (k + 1) a0) := by
  intro a0 k
  obtain ⟨ih0, ih1, ih2⟩ := spec_Varint.mono_l k
  unfold spec_Varint.f
  repeat' first
      | (with_reducible exact ih0 _ _ _)
      | (with_reducible exact ih1 _ _ _ _)
      | (with_reducible exact ih2 _ _ _ _)
      | (with_reducible exact LeO.refl _)
      | (with_reducible exact LeO.none _)
      | (with_reducible refine LeO.ite ?_ ?_)
      | (with_reducible refine LeO.bind ?_ (fun _ => ?_))
      | exact ih0 _ _ _
      | exact ih1 _ _ _ _
      | exact ih2 _ _ _ _
      | exact LeO.none _
      | refine LeO.ite ?_ ?_
      | refine LeO.bind ?_ (fun _ => ?_)
set_option maxHeartbeats 8000000 in
set_option maxRecDepth 100000 in
theorem spec_Varint.calls (k : Nat) (A0 : Option Addr) (c0 : Nat) (l0 : List Int) (r1 : Int) (r2 : Int) (r3 : Bool) (w : World) (hr0 : Kd.C (Kd.int .u8) w A0 l0.length l0) (hc0 : l0.length ≤ c0) (h : spec_Varint.f k l0 = some (r1, r2, r3)) :
    Calls Tryd.prog 32 #[.slice A0 l0.length c0] w fun e w' => e = .returned (.tuple #[.int .u64 r1, .int .i64 r2, .bool r3]) ∧ Drawn0 w w' := by
  have HR0 := Aside0.mk hr0
  have HC0 := Aside0.mk hc0
  clear hr0 hc0
  have H : (spec_Varint.l0 k l0 0 0) = some (r1, r2, r3) := h
  clear h
  have H' := Aside0.mk H
  clear H
  go_enter Tryd.func32, Tryd.ntmps32
  go_wp2
  go_loopg [5, 6] k (fun kq v5 v6 w' => ∃ (x5_1 : Int) (x6_1 : Int), v5 = .int .u64 x5_1 ∧ v6 = .int .i64 x6_1 ∧ Aside0 (spec_Varint.l0 kq l0 x5_1 x6_1 = some (r1, r2, r3)) ∧ Aside0 (kq ≤ k) ∧ Drawn0 w w')
  case atStart => exact ⟨(0), (0), (by first | rfl | (simp; done) | (simp [*]; done)), (by first | rfl | (simp; done) | (simp [*]; done)), H', ⟨Nat.le_refl _⟩, by repeat (first | exact Drawn0.refl _ | apply Drawn0.step)⟩
  case round =>
    clear H'
    obtain ⟨x5_1, x6_1, rfl, rfl, HA, HK1, ⟨m1, rfl⟩⟩ := hrel
    cases gk with
    | zero => exact absurd HA.out (by simp [spec_Varint.l0])
    | succ k1 =>
      have H := HA.out
      clear HA
      simp only [spec_Varint.l0] at H
      have HC2 := Aside0.mk H
      clear H
      go_upto_region 3 with (fail)
      go_cut [14] (fun v14 wc => ∃ (kq : Nat) (x14_1 : Bool), v14 = .bool x14_1 ∧ Aside0 (spec_Varint.j1 kq l0 x5_1 x6_1 x14_1 = some (r1, r2, r3)) ∧ Aside0 (kq ≤ k1) ∧ Drawn0 w wc)
      case first =>
        have H := HC2.out
        clear HC2
        by_cases c3 : x6_1 < (l0.length : Int)
        · rw [if_pos c3] at H
          have c3b0 : decide (x6_1 < (l0.length : Int)) = true := decide_eq_true c3
          clear c3
          (first | rw [c3b0] | (simp only [i64_w, i32_w]; rw [c3b0]) | skip)
          have H' := Aside0.mk H
          clear H
          go_wp2
          go_meet
          case rel => exact ⟨_, (decide (x6_1 < 10)), (by first | rfl | (simp; done) | (simp [*]; done)), H', ⟨by have := HK1.out; first | omega | exact Nat.le_refl _⟩, by repeat (first | exact Drawn0.refl _ | apply Drawn0.step)⟩
        · rw [if_neg c3] at H
          have c3b0 : decide (x6_1 < (l0.length : Int)) = false := decide_eq_false c3
          clear c3
          (first | rw [c3b0] | (simp only [i64_w, i32_w]; rw [c3b0]) | skip)
          have H' := Aside0.mk H
          clear H
          go_wp2
          go_meet
          case rel => exact ⟨_, (false), (by first | rfl | (simp; done) | (simp [*]; done)), H', ⟨by have := HK1.out; first | omega | exact Nat.le_refl _⟩, by repeat (first | exact Drawn0.refl _ | apply Drawn0.step)⟩
      case rest =>
        clear HC2
        try clear p2
        try clear c3
        try clear c3b0
        obtain ⟨kq, x14_1, rfl, HA, HJ1, ⟨mc1, rfl⟩⟩ := hcut
        cases kq with
        | zero => exact absurd HA.out (by simp [spec_Varint.j1])
        | succ kj1 =>
          have H := HA.out
          clear HA
          simp only [spec_Varint.j1] at H
          by_cases c4 : x14_1 = true
          · subst c4
            have H1 : (if x6_1 = 9 then (if 0 ≤ x6_1 then (if x6_1 < (l0.length : Int) then (spec_Varint.j2 kj1 l0 x5_1 x6_1 (decide ((rd l0 x6_1) > 1))) else (none)) else (none)) else (spec_Varint.j2 kj1 l0 x5_1 x6_1 false)) = some (r1, r2, r3) := by rw [if_pos rfl] at H; exact H
            clear H
            have H := H1
            clear H1
            have HC5 := Aside0.mk H
            clear H
            go_upto_region 5 with (fail)
            go_cut [25] (fun v25 wc => ∃ (kq : Nat) (x25_4 : Bool), v25 = .bool x25_4 ∧ Aside0 (spec_Varint.j2 kq l0 x5_1 x6_1 x25_4 = some (r1, r2, r3)) ∧ Aside0 (kq ≤ kj1) ∧ Drawn0 w wc)
            case first =>
              have H := HC5.out
              clear HC5
              by_cases c6 : x6_1 = 9
              · rw [if_pos c6] at H
                have c6b0 : (x6_1 == 9) = true := beq_iff_eq.mpr c6
                have c6b1 : (x6_1 != 9) = false := bne_eq_false_iff_eq.mpr c6
                clear c6
                (first | rw [c6b0] | (simp only [i64_w, i32_w]; rw [c6b0]) | skip)
                by_cases c7 : 0 ≤ x6_1
                · rw [if_pos c7] at H
                  have c7b0 : decide (0 ≤ x6_1) = true := decide_eq_true c7
                  clear c7
                  by_cases c8 : x6_1 < (l0.length : Int)
                  · rw [if_pos c8] at H
                    have c8b0 : decide (x6_1 < (l0.length : Int)) = true := decide_eq_true c8
                    clear c8
                    have H' := Aside0.mk H
                    clear H
                    have p108 : 0 ≤ (x6_1 : Int) := of_decide_eq_true (by first | (with_reducible assumption) | assumption)
                    have q108 : x6_1 < (l0.length : Int) := of_decide_eq_true (by first | (with_reducible assumption) | assumption)
                    obtain ⟨ad108, e108, hx108_0⟩ := Kd.at_int HR0.out x6_1 p108 q108
                    cases e108
                    replace p108 := eq_true p108
                    replace q108 := eq_true q108
                    go_wp2
                    go_meet
                    case rel => exact ⟨_, (decide ((rd l0 x6_1) > 1)), (by first | rfl | (simp; done) | (simp [*]; done)), H', ⟨by have := HK1.out; have := HJ1.out; first | omega | exact Nat.le_refl _⟩, by repeat (first | exact Drawn0.refl _ | apply Drawn0.step)⟩
                  · rw [if_neg c8] at H
                    exact absurd H (by simp)
                · rw [if_neg c7] at H
                  exact absurd H (by simp)
              · rw [if_neg c6] at H
                have c6b0 : (x6_1 == 9) = false := beq_eq_false_iff_ne.mpr c6
                have c6b1 : (x6_1 != 9) = true := bne_iff_ne.mpr c6
                (first | rw [c6b0] | (simp only [i64_w, i32_w]; rw [c6b0]) | skip)
                have H' := Aside0.mk H
                clear H
                go_wp2
                go_meet
                case rel => exact ⟨_, (false), (by first | rfl | (simp; done) | (simp [*]; done)), H', ⟨by have := HK1.out; have := HJ1.out; first | omega | exact Nat.le_refl _⟩, by repeat (first | exact Drawn0.refl _ | apply Drawn0.step)⟩
            case rest =>
              clear HC5
              try clear c1
              try clear p1
              try clear q1
              try clear hx1
              try clear p2
              try clear c3
              try clear c3b0
              try clear c4
              try clear c6
              try clear c6b0
              try clear c6b1
              try clear c7
              try clear c7b0
              try clear c8
              try clear c8b0
              try clear hx108_0
              try clear p108
              try clear p2
              try clear q108
              obtain ⟨kq, x25_4, rfl, HA, HJ4, ⟨mc4, rfl⟩⟩ := hcut
              cases kq with
              | zero => exact absurd HA.out (by simp [spec_Varint.j2])
              | succ kj4 =>
                have H := HA.out
                clear HA
                simp only [spec_Varint.j2] at H
                by_cases c9 : x25_4 = true
                · subst c9
                  have H1 : (some (0, 0, false)) = some (r1, r2, r3) := by rw [if_pos rfl] at H; exact H
                  clear H
                  have H := H1
                  clear H1
                  simp only [Option.some.injEq, Prod.mk.injEq] at H
                  obtain ⟨rfl, rfl, rfl⟩ := H
                  go_wp2
                  go_ret3
                  exact ⟨by first | rfl | (simp; done) | (simp [*]; done) | (simp; generalize ByteArray.toList _ = l_; cases l_ <;> rfl), by repeat (first | exact Drawn0.refl _ | apply Drawn0.step)⟩
                · replace c9 := Bool.eq_false_iff.mpr c9
                  subst c9
                  have H1 : (if 0 ≤ x6_1 then (if x6_1 < (l0.length : Int) then (if 0 ≤ (IntKind.u64.wrap (7 * (IntKind.u64.wrap (x6_1)))) then (if (rd l0 x6_1) < 128 then (some (IntKind.u64.wrap (x5_1 + (shl .u64 (IntKind.u64.wrap (Int.tmod (rd l0 x6_1) 128)) (IntKind.u64.wrap (7 * (IntKind.u64.wrap (x6_1)))))), wrap64 (x6_1 + 1), true)) else (spec_Varint.l0 kj4 l0 (IntKind.u64.wrap (x5_1 + (shl .u64 (IntKind.u64.wrap (Int.tmod (rd l0 x6_1) 128)) (IntKind.u64.wrap (7 * (IntKind.u64.wrap (x6_1))))))) (wrap64 (x6_1 + 1)))) else (none)) else (none)) else (none)) = some (r1, r2, r3) := by rw [if_neg (show ¬ (false = true) by decide)] at H; exact H
                  clear H
                  have H := H1
                  clear H1
                  by_cases c10 : 0 ≤ x6_1
                  · rw [if_pos c10] at H
                    have c10b0 : decide (0 ≤ x6_1) = true := decide_eq_true c10
                    clear c10
                    by_cases c11 : x6_1 < (l0.length : Int)
                    · rw [if_pos c11] at H
                      have c11b0 : decide (x6_1 < (l0.length : Int)) = true := decide_eq_true c11
                      clear c11
                      obtain ⟨ji12, hji12⟩ : ∃ j_ : Int, (IntKind.u64.wrap (7 * (IntKind.u64.wrap (x6_1)))) = j_ := ⟨_, rfl⟩
                      replace H : (if 0 ≤ (ji12) then (if (rd l0 x6_1) < 128 then (some (IntKind.u64.wrap (x5_1 + (shl .u64 (IntKind.u64.wrap (Int.tmod (rd l0 x6_1) 128)) (ji12))), wrap64 (x6_1 + 1), true)) else (spec_Varint.l0 kj4 l0 (IntKind.u64.wrap (x5_1 + (shl .u64 (IntKind.u64.wrap (Int.tmod (rd l0 x6_1) 128)) (ji12)))) (wrap64 (x6_1 + 1)))) else (none)) = some (r1, r2, r3) := by first | (rw [hji12] at H; exact H) | (simp only [hji12] at H ⊢; exact H)
                      by_cases c13 : 0 ≤ (ji12)
                      · rw [if_pos c13] at H
                        have c13b0 := eq_true c13
                        have c13b1 : decide (0 ≤ (ji12)) = true := decide_eq_true c13
                        clear c13
                        obtain ⟨ji14, hji14⟩ : ∃ j_ : Int, (shl .u64 (IntKind.u64.wrap (Int.tmod (rd l0 x6_1) 128)) (ji12)) = j_ := ⟨_, rfl⟩
                        replace H : (if (rd l0 x6_1) < 128 then (some (IntKind.u64.wrap (x5_1 + (ji14)), wrap64 (x6_1 + 1), true)) else (spec_Varint.l0 kj4 l0 (IntKind.u64.wrap (x5_1 + (ji14))) (wrap64 (x6_1 + 1)))) = some (r1, r2, r3) := by first | (rw [hji14] at H; exact H) | (simp only [hji14] at H ⊢; exact H)
                        have hji14_ : (IntKind.u64.wrap ((IntKind.u64.wrap (Int.tmod (rd l0 x6_1) 128)) * 2 ^ min (ji12).toNat 64)) = ji14 := hji14
                        have hji14z : (ji12) ≤ 64 → (IntKind.u64.wrap ((IntKind.u64.wrap (Int.tmod (rd l0 x6_1) 128)) * 2 ^ (ji12).toNat)) = ji14 := shl_small hji14
                        by_cases c15 : (rd l0 x6_1) < 128
                        · rw [if_pos c15] at H
                          have c15b0 : decide ((rd l0 x6_1) < 128) = true := decide_eq_true c15
                          clear c15
                          simp only [Option.some.injEq, Prod.mk.injEq] at H
                          obtain ⟨rfl, rfl, rfl⟩ := H
                          have p109 : 0 ≤ (x6_1 : Int) := of_decide_eq_true (by first | (with_reducible assumption) | assumption)
                          have q109 : x6_1 < (l0.length : Int) := of_decide_eq_true (by first | (with_reducible assumption) | assumption)
                          obtain ⟨ad109, e109, hx109_0⟩ := Kd.at_int HR0.out x6_1 p109 q109
                          cases e109
                          replace p109 := eq_true p109
                          replace q109 := eq_true q109
                          have p110 : 0 ≤ (x6_1 : Int) := of_decide_eq_true (by first | (with_reducible assumption) | assumption)
                          have q110 : x6_1 < (l0.length : Int) := of_decide_eq_true (by first | (with_reducible assumption) | assumption)
                          obtain ⟨ad110, e110, hx110_0⟩ := Kd.at_int HR0.out x6_1 p110 q110
                          obtain rfl : ad109 = ad110 := (by injection e110)
                          replace p110 := eq_true p110
                          replace q110 := eq_true q110
                          go_wp2
                          go_ret3
                          exact ⟨by first | rfl | (simp; done) | (simp only [← hji12, ← hji14] <;> (first | rfl | simp)) | (simp [*]; done), by repeat (first | exact Drawn0.refl _ | apply Drawn0.step)⟩
                        · rw [if_neg c15] at H
                          have c15b0 : decide ((rd l0 x6_1) < 128) = false := decide_eq_false c15
                          clear c15
                          have H' := Aside0.mk H
                          clear H
                          have p109 : 0 ≤ (x6_1 : Int) := of_decide_eq_true (by first | (with_reducible assumption) | assumption)
                          have q109 : x6_1 < (l0.length : Int) := of_decide_eq_true (by first | (with_reducible assumption) | assumption)
                          obtain ⟨ad109, e109, hx109_0⟩ := Kd.at_int HR0.out x6_1 p109 q109
                          cases e109
                          replace p109 := eq_true p109
                          replace q109 := eq_true q109
                          have p110 : 0 ≤ (x6_1 : Int) := of_decide_eq_true (by first | (with_reducible assumption) | assumption)
                          have q110 : x6_1 < (l0.length : Int) := of_decide_eq_true (by first | (with_reducible assumption) | assumption)
                          obtain ⟨ad110, e110, hx110_0⟩ := Kd.at_int HR0.out x6_1 p110 q110
                          obtain rfl : ad109 = ad110 := (by injection e110)
                          replace p110 := eq_true p110
                          replace q110 := eq_true q110
                          go_wp2
                          go_roundg kj4
                          case measure => have := HK1.out; have := HJ1.out; have := HJ4.out; omega
                          case rel => exact ⟨(IntKind.u64.wrap (x5_1 + (ji14))), (wrap64 (x6_1 + 1)), (by first | rfl | (simp; done) | (simp only [← hji14] <;> (first | rfl | simp)) | (simp [*]; done)), (by first | rfl | (simp; done) | (simp [*]; done)), H', ⟨by have := HK1.out; have := HJ1.out; have := HJ4.out; omega⟩, by repeat (first | exact Drawn0.refl _ | apply Drawn0.step)⟩
                      · rw [if_neg c13] at H
                        exact absurd H (by simp)
                    · rw [if_neg c11] at H
                      exact absurd H (by simp)
                  · rw [if_neg c10] at H
                    exact absurd H (by simp)
          · replace c4 := Bool.eq_false_iff.mpr c4
            subst c4
            have H1 : (some (0, 0, false)) = some (r1, r2, r3) := by rw [if_neg (show ¬ (false = true) by decide)] at H; exact H
            clear H
            have H := H1
            clear H1
            simp only [Option.some.injEq, Prod.mk.injEq] at H
            obtain ⟨rfl, rfl, rfl⟩ := H
            go_wp2
            go_ret3
            exact ⟨by first | rfl | (simp; done) | (simp [*]; done) | (simp; generalize ByteArray.toList _ = l_; cases l_ <;> rfl), by repeat (first | exact Drawn0.refl _ | apply Drawn0.step)⟩

/-! ### spec_Bytes: function 11 -/
section
open _root_.Go.Proofs.YtmfblbjklmgncaaDoor.Road ProtoW ProtoErrW ProtoBytesW
def okV : Option (Int × Int) → Int × Int × Bool
  | some (v, n) => (v, n, true)
  | none => (0, 0, false)
theorem rd_nat (l : List Int) (i : Nat) (h : i < l.length) : rd l (i : Int) = l[i] := by simp [rd, h]
theorem shl7 (a i : Nat) (hi : i ≤ 9) (h : a * 2 ^ (7 * i) < 2 ^ 64) : shl .u64 (a : Int) ((7 * i : Nat) : Int) = ((a * 2 ^ (7 * i) : Nat) : Int) := by
  unfold shl
  rw [Int.toNat_natCast, show min (7 * i) IntKind.u64.bits = 7 * i from Nat.min_eq_left (by show 7 * i ≤ 64; omega), IntKind.wrap_u64]
  have e : (a : Int) * 2 ^ (7 * i) = ((a * 2 ^ (7 * i) : Nat) : Int) := by push_cast; rfl
  rw [e]
  omega
theorem le7 (i : Nat) (h : i ≤ 8) : 7 * (i + 1) ≤ 63 := by omega
theorem le8 {i : Nat} (h : i ≤ 9) (h' : i ≠ 9) : i ≤ 8 := by omega
theorem le64 : 2 ^ 63 ≤ 18446744073709551616 := by decide
theorem lt64 (i n : Nat) (h : i ≤ 8) (hp : n < 2 ^ (7 * (i + 1))) : n < 18446744073709551616 :=
  Nat.lt_of_lt_of_le hp (Nat.le_trans (Nat.pow_le_pow_right Nat.zero_lt_two (le7 i h)) le64)
theorem Varint_loop (l : List Int) (hb : ∀ x ∈ l, 0 ≤ x ∧ x < 256) (hl : l.length ≤ 2147483647) (d : Nat) : ∀ (i acc : Nat), i ≤ 9 → i + d = 10 → acc < 2 ^ (7 * i) →
    Ev (fun k => spec_Varint.l0 k l (acc : Int) (i : Int)) (okV (ProtoW.scanV i acc (l.drop i))) := by
  induction d with
  | zero => intro i acc h1 h2; omega
  | succ d ih =>
    intro i acc hi hd hacc
    by_cases hlt : i < l.length
    · have hrd := rd_nat l i hlt
      have hbx := hb l[i] (List.getElem_mem hlt)
      obtain ⟨x, hx⟩ := Int.eq_ofNat_of_zero_le hbx.1
      rw [List.drop_eq_getElem_cons hlt]
      rw [hx] at hrd ⊢
      have hx256 : x < 256 := by omega
      have e7 : IntKind.u64.wrap (7 * IntKind.u64.wrap (i : Int)) = ((7 * i : Nat) : Int) := by
        rw [IntKind.wrap_u64, IntKind.wrap_u64]; omega
      have em : IntKind.u64.wrap (Int.tmod (x : Int) 128) = ((x % 128 : Nat) : Int) := by
        rw [Int.tmod_eq_emod_of_nonneg (by omega), IntKind.wrap_u64]; omega
      have ew : wrap64 ((i : Int) + 1) = ((i + 1 : Nat) : Int) := wrap_nat i (by omega)
      have hpow : x % 128 * 2 ^ (7 * i) + acc < 2 ^ (7 * (i + 1)) := by
        rw [ProtoW.pow7]
        have : x % 128 ≤ 127 := by omega
        have := Nat.mul_le_mul_right (2 ^ (7 * i)) this
        omega
      have h64 : i ≠ 9 → x % 128 * 2 ^ (7 * i) + acc < 18446744073709551616 := fun h9 => lt64 i _ (le8 hi h9) hpow
      have HPW := Aside0.mk hpow
      have HAC := Aside0.mk hacc
      have H64 := Aside0.mk h64
      clear hpow hacc h64
      refine Ev.step (f := fun k => spec_Varint.j1 k l (acc : Int) (i : Int) true) (fun k => ?_) ?_
      · simp only [spec_Varint.l0]
        rw [if_pos (by omega), show decide ((i : Int) < 10) = true from decide_eq_true (by omega)]
      by_cases h9 : i = 9
      · subst h9
        by_cases h1 : x > 1
        · refine Ev.step (f := fun k => spec_Varint.j2 k l (acc : Int) ((9 : Nat) : Int) true) (fun k => ?_) ?_
          · simp only [spec_Varint.j1, if_true, hrd]
            rw [if_pos (by omega), if_pos (by omega), if_pos (by omega), show decide ((x : Int) > 1) = true from decide_eq_true (by omega)]
          · refine Ev.step (f := fun _ => some (0, 0, false)) (fun k => ?_) ?_
            · simp [spec_Varint.j2]
            · rw [ProtoW.scanV, if_pos rfl, if_neg (by omega)]
              exact Ev.now _
        · have h64 : x % 128 * 2 ^ (7 * 9) < 2 ^ 64 := by omega
          have es := shl7 (x % 128) 9 (by omega) h64
          have ea : IntKind.u64.wrap ((acc : Int) + ((x % 128 * 2 ^ (7 * 9) : Nat) : Int)) = ((acc + x % 128 * 2 ^ (7 * 9) : Nat) : Int) := by
            have hA := HAC.out
            rw [show (2 : Nat) ^ (7 * 9) = 9223372036854775808 from rfl] at hA h64 ⊢
            rw [IntKind.wrap_u64]
            clear ih em e7 ew hrd
            have : x % 128 ≤ 1 := by omega
            omega
          refine Ev.step (f := fun k => spec_Varint.j2 k l (acc : Int) ((9 : Nat) : Int) false) (fun k => ?_) ?_
          · simp only [spec_Varint.j1, if_true, hrd]
            rw [if_pos (by omega), if_pos (by omega), if_pos (by omega), show decide ((x : Int) > 1) = false from decide_eq_false (by omega)]
          · refine Ev.step (f := fun _ => some (((acc + x % 128 * 2 ^ (7 * 9) : Nat) : Int), ((9 + 1 : Nat) : Int), true)) (fun k => ?_) ?_
            · simp only [spec_Varint.j2, Bool.false_eq_true, if_false, hrd]
              rw [if_pos (by omega), if_pos (by omega), e7, if_pos (by omega), if_pos (by omega), em, es, ea, ew]
            · rw [ProtoW.scanV, if_pos rfl, if_pos (by omega)]
              have : x % 128 = x := by omega
              rw [this]
              exact Ev.now _
      · have es := shl7 (x % 128) i hi (Nat.lt_of_le_of_lt (Nat.le_add_right _ acc) (H64.out h9))
        have ea : IntKind.u64.wrap ((acc : Int) + ((x % 128 * 2 ^ (7 * i) : Nat) : Int)) = ((acc + x % 128 * 2 ^ (7 * i) : Nat) : Int) := by
          have := H64.out h9
          rw [IntKind.wrap_u64]
          generalize x % 128 * 2 ^ (7 * i) = y at this ⊢
          omega
        refine Ev.step (f := fun k => spec_Varint.j2 k l (acc : Int) (i : Int) false) (fun k => ?_) ?_
        · simp only [spec_Varint.j1, if_true]
          rw [if_neg (by omega)]
        by_cases h128 : x < 128
        · refine Ev.step (f := fun _ => some (((acc + x % 128 * 2 ^ (7 * i) : Nat) : Int), ((i + 1 : Nat) : Int), true)) (fun k => ?_) ?_
          · simp only [spec_Varint.j2, Bool.false_eq_true, if_false, hrd]
            rw [if_pos (by omega), if_pos (by omega), e7, if_pos (by omega), if_pos (by omega), em, es, ea, ew]
          · rw [ProtoW.scanV, if_neg h9, if_pos (by omega)]
            have : x % 128 = x := Nat.mod_eq_of_lt h128
            rw [this]
            exact Ev.now _
        · refine Ev.step (f := fun k => spec_Varint.l0 k l ((acc + x % 128 * 2 ^ (7 * i) : Nat) : Int) ((i + 1 : Nat) : Int)) (fun k => ?_) ?_
          · simp only [spec_Varint.j2, Bool.false_eq_true, if_false, hrd]
            rw [if_pos (by omega), if_pos (by omega), e7, if_pos (by omega), if_neg (by omega), em, es, ea, ew]
          · rw [ProtoW.scanV, if_neg h9, if_neg (by omega)]
            have e : (x : Int).toNat - 128 = x % 128 := by omega
            rw [e]
            exact ih (i + 1) _ (by omega) (by omega) (by rw [Nat.add_comm]; exact HPW.out)
    · rw [List.drop_of_length_le (by omega)]
      refine Ev.step (f := fun k => spec_Varint.j1 k l (acc : Int) (i : Int) false) (fun k => ?_) ?_
      · simp only [spec_Varint.l0]
        rw [if_neg (by omega)]
      · refine Ev.step (f := fun _ => some (0, 0, false)) (fun k => ?_) ?_
        · simp [spec_Varint.j1]
        · exact Ev.now _
theorem Varint_ev (l : List Int) (hb : ∀ x ∈ l, 0 ≤ x ∧ x < 256) (hl : l.length ≤ 2147483647) : Ev (fun k => spec_Varint.f k l) (okV (ProtoW.scanV 0 0 l)) := by
  have := Varint_loop l hb hl 10 0 0 (by omega) (by omega) (by decide)
  simpa [spec_Varint.f] using this
theorem specVar (l : List Int) (hb : ∀ x ∈ l, 0 ≤ x ∧ x < 256) (hl : l.length ≤ 2147483647) : ∃ k, spec_Varint.f k l = some (okV (ProtoW.scanV 0 0 l)) := Ev.rounds (Varint_ev l hb hl)
/-- The cut of a row: read. -/
theorem cut_C (w : World) (ad : Addr) (l : List Int) (k m : Nat) (hC : Kd.C (Kd.int .u8) w (some ad) l.length l) (hkm : k + m ≤ l.length) : Kd.C (Kd.int .u8) w (some (ad.add k)) ((l.drop k).take m).length ((l.drop k).take m) := by
  have hrd := Kd.reads_of_C (enc := Value.int .u8) (d := (0 : Int)) (h1 := fun _ => rfl) hC
  have hlen : ((l.drop k).take m).length = m := by simp; omega
  have hsm : l.length ≤ maxLen := hrd.2.1
  refine Kd.C_of_reads (enc := Value.int .u8) (d := (0 : Int)) (h1 := fun _ => rfl) ⟨rfl, by rw [hlen]; simp only [maxLen] at hsm ⊢; omega, fun hn => ⟨_, rfl, fun j hj => ?_⟩⟩
  rw [hlen] at hj
  obtain ⟨ad', e, hc⟩ := hrd.2.2 (by omega)
  obtain rfl := Option.some.inj e
  have ea : (ad.add k).add j = ad.add (k + j) := by unfold Addr.add; split <;> split <;> simp_all [Nat.add_assoc]
  rw [ea, hc (k + j) (by omega)]
  simp [List.getD_eq_getElem?_getD, List.getElem?_take, hj, List.getElem?_drop]
set_option maxHeartbeats 8000000 in
set_option maxRecDepth 100000 in
theorem spec_Bytes_none (A : Option Addr) (c : Nat) (l : List Int) (w : World) (hC : Kd.C (Kd.int .u8) w A l.length l) (hcp : l.length ≤ c) (hb : ∀ x ∈ l, 0 ≤ x ∧ x < 256) (hl : l.length ≤ 2147483647) (hs : bytesV l = none) :
    Calls Tryd.prog 11 #[.slice A l.length c] w fun e w' => e = .returned (.tuple #[.slice none 0 0, .int .i64 0, .bool false]) ∧ Drawn0 w w' := by
  obtain ⟨kv, hv⟩ := specVar l hb hl
  unfold bytesV at hs
  cases hsc : scanV 0 0 l with
  | none =>
    rw [hsc] at hv
    have HC := Aside0.mk hC
    have HP := Aside0.mk hcp
    have HV := Aside0.mk hv
    clear hC hcp hb hl hs hsc hv
    go_enter Tryd.func11, Tryd.ntmps11
    go_wp2_with fail
    refine (spec_Varint.calls kv A c l 0 0 false w HC.out HP.out HV.out).mono ?_
    rintro e w1 ⟨rfl, hd⟩
    have HD := Aside0.mk hd
    clear hd
    go_wp2_with fail
    go_ret3
    exact ⟨rfl, HD.out⟩
  | some p =>
    obtain ⟨v', n'⟩ := p
    rw [hsc] at hv hs
    simp only at hs
    split at hs
    · rename_i hgt
      have hz := scanV_size l 0 0 v' n' (by decide) hsc
      obtain ⟨k, rfl⟩ := Int.eq_ofNat_of_zero_le (show 0 ≤ n' by omega)
      obtain ⟨m, hm⟩ : ∃ m, m = l.length - k := ⟨_, rfl⟩
      have E : wrap64 ((l.length : Int) - (k : Int)) = (m : Int) ∧ IntKind.u64.wrap (m : Int) = (m : Int) ∧ decide ((m : Int) < v') = true :=
        ⟨w64 _ _ (by omega) (by omega) (by omega), wu64 _ _ rfl (by omega) (by omega), decide_eq_true (by omega)⟩
      obtain ⟨e0, e1, e2⟩ := E
      have HC := Aside0.mk hC
      have HP := Aside0.mk hcp
      have HV := Aside0.mk hv
      clear hC hcp hb hl hs hsc hv hz hgt hm
      go_enter Tryd.func11, Tryd.ntmps11
      go_wp2_with fail
      refine (spec_Varint.calls kv A c l v' (k : Int) true w HC.out HP.out HV.out).mono ?_
      rintro e w1 ⟨rfl, hd⟩
      have HD := Aside0.mk hd
      clear hd
      go_wp2_with fail
      go_ret3
      exact ⟨rfl, HD.out⟩
    · exact absurd hs (by simp)
def SpecB (w : World) (l : List Int) (n v : Int) (e : Ending) (w' : World) : Prop := ∃ A' c', e = .returned (.tuple #[.slice A' ((l.drop n.toNat).take v.toNat).length c', .int .i64 (n + v), .bool true]) ∧ Aside0 (Kd.C (Kd.int .u8) w A' ((l.drop n.toNat).take v.toNat).length ((l.drop n.toNat).take v.toNat) ∧ ((l.drop n.toNat).take v.toNat).length ≤ c') ∧ Drawn0 w w'
set_option maxHeartbeats 8000000 in
set_option maxRecDepth 100000 in
theorem spec_Bytes_some (A : Option Addr) (c : Nat) (l : List Int) (v n : Int) (w : World) (hC : Kd.C (Kd.int .u8) w A l.length l) (hcp : l.length ≤ c) (hb : ∀ x ∈ l, 0 ≤ x ∧ x < 256) (hl : l.length ≤ 2147483647) (hs : bytesV l = some (v, n)) :
    Calls Tryd.prog 11 #[.slice A l.length c] w (SpecB w l n v) := by
  obtain ⟨kv, hv⟩ := specVar l hb hl
  unfold bytesV at hs
  cases hsc : scanV 0 0 l with
  | none => rw [hsc] at hs; simp at hs
  | some p =>
    obtain ⟨v', n'⟩ := p
    rw [hsc] at hv hs
    simp only at hs
    split at hs
    · simp at hs
    · rename_i hle
      simp only [Option.some.injEq, Prod.mk.injEq] at hs
      obtain ⟨rfl, rfl⟩ := hs
      have hz := scanV_size l 0 0 v' n' (by decide) hsc
      have hne : 0 < l.length := List.length_pos_iff.2 (by intro e; rw [e] at hsc; simp [scanV] at hsc)
      have hrd := Kd.reads_of_C (enc := Value.int .u8) (d := (0 : Int)) (h1 := fun _ => rfl) hC
      obtain ⟨ad, rfl, hcl⟩ := hrd.2.2 hne
      clear hcl
      obtain ⟨k, rfl⟩ := Int.eq_ofNat_of_zero_le (show 0 ≤ n' by omega)
      obtain ⟨m, rfl⟩ := Int.eq_ofNat_of_zero_le (show 0 ≤ v' by omega)
      obtain ⟨d, hd⟩ : ∃ d, d = l.length - k := ⟨_, rfl⟩
      obtain ⟨s, hsn⟩ : ∃ s, s = k + m := ⟨_, rfl⟩
      have hlen : ((l.drop k).take m).length = s - k := by simp; omega
      have hks : (k : Int) + (m : Int) = (s : Int) := by omega
      have hkm : k + m ≤ l.length := by omega
      have k1 := eq_true (show k ≤ s by omega)
      have k2 := eq_true (show (k : Int) ≤ (s : Int) by omega)
      have k3 := eq_true (show (0 : Int) ≤ (k : Int) by omega)
      have k4 := eq_true (show s ≤ c by omega)
      have k5 := eq_true (show (s : Int) ≤ (c : Int) by omega)
      have k6 := eq_true (show (0 : Int) ≤ (s : Int) by omega)
      have E : wrap64 ((l.length : Int) - (k : Int)) = (d : Int) ∧ IntKind.u64.wrap (d : Int) = (d : Int) ∧ decide ((d : Int) < (m : Int)) = false ∧ decide (d < m) = false ∧ wrap64 (m : Int) = (m : Int) ∧ IntKind.i64.wrap (m : Int) = (m : Int) ∧ wrap64 ((k : Int) + (m : Int)) = (s : Int) :=
        ⟨w64 _ _ (by omega) (by omega) (by omega), wu64 _ _ rfl (by omega) (by omega), decide_eq_false (by omega), decide_eq_false (by omega), w64 _ _ rfl (by omega) (by omega), wi64 _ _ rfl (by omega) (by omega), w64 _ _ (by omega) (by omega) (by omega)⟩
      obtain ⟨e0, e1, e2, e2', e3, e3', e4⟩ := E
      have HL := Aside0.mk hlen
      have HS := Aside0.mk hsn
      have HC := Aside0.mk hC
      have HP := Aside0.mk hcp
      have HV := Aside0.mk hv
      have HK := Aside0.mk hkm
      have HKS := Aside0.mk hks
      clear hC hcp hb hl hsc hv hz hle hd hsn hne hrd hlen hks hkm
      go_enter Tryd.func11, Tryd.ntmps11
      go_wp2_with fail
      refine (spec_Varint.calls kv (some ad) c l (m : Int) (k : Int) true w HC.out HP.out HV.out).mono ?_
      rintro e w1 ⟨rfl, hd⟩
      have HD := Aside0.mk hd
      clear hd
      go_wp2_with fail
      all_goals go_ret3
      · have hm0 : m = 0 := by have := HS.out; have := of_eq_true k4; have := HK.out; omega
        subst hm0
        have es : s = k := by have := HS.out; omega
        subst es
        refine ⟨some ad, _, by simp only [Int.toNat_natCast, HL.out, HKS.out]; rfl, ⟨?_, ?_⟩, HD.out⟩
        · simp only [Int.toNat_natCast, List.take_zero]
          exact Kd.C_of_reads (enc := Value.int .u8) (d := (0 : Int)) (h1 := fun _ => rfl) ⟨rfl, by simp, fun hn => absurd hn (by simp)⟩
        · simp
      · refine ⟨some (ad.add k), c - k, by simp only [Int.toNat_natCast, HL.out, HKS.out]; rfl, ⟨?_, ?_⟩, HD.out⟩
        · have := cut_C w ad l k m HC.out HK.out
          simpa only [Int.toNat_natCast] using this
        · simp only [Int.toNat_natCast, HL.out]
          exact Nat.sub_le_sub_right (of_eq_true k4) _
end


-- NOT PRINTED: function 51 (server_protoScanBytes)

-- NOT PRINTED: function 33 (server_ScanBytes)

/-! ### impl_copied: function 35 -/
def impl_copied.f (l0 : List Int) : Option (List Int) := (some (([] : List Int) : List Int)).bind fun y111 => (if y111.length + l0.length < 140737488355328 then (some (y111 ++ l0)) else (none))
set_option maxHeartbeats 8000000 in
set_option maxRecDepth 100000 in
theorem impl_copied.calls (A0 : Option Addr) (c0 : Nat) (l0 : List Int) (r : List Int) (w : World) (hr0 : Kd.C (Kd.int .u8) w A0 l0.length l0) (hc0 : l0.length ≤ c0) (h : impl_copied.f l0 = some r) :
    Calls Tryd.prog 35 #[.slice A0 l0.length c0] w fun e w' => ∃ v0_ : Value, e = .returned (v0_) ∧ Kd.R (Kd.int .u8) 5 w' w.heap.size (fun _ => True) v0_ r ∧ Below w.heap.size w w' := by
  have HR0 := Aside0.mk hr0
  have HC0 := Aside0.mk hc0
  clear hr0 hc0
  have HB := Aside0.mk (Below.refl w.heap.size w)
  have H : ((some (([] : List Int) : List Int)).bind fun y111 => (if y111.length + l0.length < 140737488355328 then (some (y111 ++ l0)) else (none))) = some r := h
  clear h
  obtain ⟨y111, hy111⟩ : ∃ y_ : List Int, y_ = (([] : List Int)) := ⟨_, rfl⟩
  replace H : (if y111.length + l0.length < 140737488355328 then (some (y111 ++ l0)) else (none)) = some r := by first | (rw [hy111]; with_reducible exact H) | (have H2_ := (Option.bind_some _ _).symm.trans H; rw [hy111]; with_reducible exact H2_) | (have H2_ := (Option.bind_some _ _).symm.trans H; with_reducible exact H2_) | with_reducible exact H | (rw [hy111]; exact H) | exact H
  have Ny111 := Aside0.mk hy111
  clear hy111
  by_cases c2 : y111.length + l0.length < 140737488355328
  · rw [if_pos c2] at H
    have LMc2 := Aside0.mk c2
    clear c2
    obtain ⟨y114, hy114⟩ : ∃ y_ : List Int, y_ = (y111 ++ l0) := ⟨_, rfl⟩
    replace H : (some y114) = some r := by first | (rw [hy114]; with_reducible exact H) | (have H2_ := (Option.bind_some _ _).symm.trans H; rw [hy114]; with_reducible exact H2_) | (have H2_ := (Option.bind_some _ _).symm.trans H; with_reducible exact H2_) | with_reducible exact H | (rw [hy114]; exact H) | exact H
    have Ny114 := Aside0.mk hy114
    clear hy114
    obtain rfl := Option.some.inj H
    go_enter Tryd.func35, Tryd.ntmps35
    go_wp2_with (first | ((with_reducible refine gate_dst (N := 3) rfl ?_); refine Kd.R_lit (Kd.int .u8) _ 5 ?hg (N := 3) ?hd (xs := ([] : List Int)) (inner := []) (ok := fun _ => True) (okp := fun _ => True) ?hr ?hp (fun _ hk => hk) trivial (Below.refl _ _) (Nat.le_refl _) (by simp) ?_; (case hd => rfl); (case hg => rfl); (case hr => first | (go_simp; done) | (go_simp; rfl)); (case hp => exact (Reps.none _ _)); intro v112 w3 ho4 hb hg_ hnew_; clear hg_ hnew_; (first | rw [← Ny111.out] at ho4 | (simp only [Int.reduceToNat] at ho4; rw [← Ny111.out] at ho4)); have n0_ := Aside0.mk (Kd.R_lower ho4 (below_size (by repeat (first | (with_reducible first | exact HB.out | apply below_alloc | apply pw_below_drewN | apply below_drew1) | exact HB.out)))); have n1_ := Aside0.mk (below_step (by repeat (first | (with_reducible first | exact HB.out | apply below_alloc | apply pw_below_drewN | apply below_drew1) | exact HB.out)) hb); clear HB; have HO113 := n0_; have HB := n1_; clear n0_ n1_; clear hb ho4) | ((with_reducible refine gate_builtin (b := .append) (xs := #[.tmp 3, .tmp 4]) rfl ?_); at_builtin; refine Kd.R_append_rows (Kd.int .u8) (w0 := w) w.heap.size rfl (.tmp 3) (.tmp 4) 22 5 (.int .u8 0) 1 rfl Tryd.underlying22 info5 rfl (by decide) (by omega) v112 y111 l0 _ _ _ (fun _ => True) (fun _ => False) rfl rfl ?aO ?aR (fun _ _ h => h) (fun _ h => h.elim) ?aF ?aB ?aS ?aL ?_; (case aR => repeat (first | exact (Kd.C_below HR0.out HB.out) | (with_reducible refine Kd.C_alloc ?_ _) | (with_reducible refine Kd.C_drewN ?_ _) | (with_reducible refine Kd.C_drew ?_))); (case aB => exact (by repeat (first | (with_reducible first | exact HB.out | apply below_alloc | apply pw_below_drewN | apply below_drew1) | exact HB.out))); (case aF => exact (fun _ _ => trivial)); (case aO => exact (by (with_reducible repeat (first | apply Kd.R_alloc | apply Kd.R_drewN | apply Kd.R_drew)); exact HO113.out)); (case aS => exact (below_size (by repeat (first | (with_reducible first | exact HB.out | apply below_alloc | apply pw_below_drewN | apply below_drew1) | exact HB.out)))); (case aL => have := LMc2.out; omega); intro v115 w5 ho hb hg hat; rw [← Ny114.out] at ho; have n0_ := Aside0.mk (hb); have n1_ := Aside0.mk (ho); clear HB; clear HO113; have HB := n0_; have HO116 := n1_; clear n0_ n1_; clear ho hb hg hat))
    go_ret
    exact ⟨_, by first | rfl | (simp [errW_none, errW_some] <;> rfl) | (simp [*, errW_none, errW_some] <;> rfl), by (with_reducible repeat (first | apply Kd.R_alloc | apply Kd.R_drewN | apply Kd.R_drew)); exact HO116.out, by repeat (first | (with_reducible first | exact HB.out | apply below_alloc | apply pw_below_drewN | apply below_drew1) | exact HB.out)⟩
  · rw [if_neg c2] at H
    exact absurd H (by simp)

/-! ### impl_ProtoBytes: function 12 -/
open ProtoW ProtoErrW ProtoBytesW in
theorem sub_C (w : World) (ad : Addr) (c : Nat) (l : List Int) (k m : Nat) (h : Row8 w (some ad) c l) (hkm : k + m ≤ l.length) : Kd.C (Kd.int .u8) w (some (ad.add k)) ((l.drop k).take m).length ((l.drop k).take m) := by
  have hlen : ((l.drop k).take m).length = m := by simp; omega
  refine Kd.C_of_reads (enc := Value.int .u8) (d := (0 : Int)) (h1 := fun _ => rfl) ⟨rfl, by rw [hlen]; have := h.small; omega, fun _ => ⟨_, rfl, fun j hj => ?_⟩⟩
  rw [hlen] at hj
  obtain ⟨ad', e, hc⟩ := h.cells (k + j) (by omega)
  obtain rfl := Option.some.inj e
  have ea : (ad.add k).add j = ad.add (k + j) := by unfold Addr.add; split <;> split <;> simp_all [Nat.add_assoc]
  rw [ea, hc, List.getD_eq_getElem?_getD, List.getElem?_take, if_pos hj, List.getElem?_drop, List.getElem?_eq_getElem (by omega)]
  rfl
open ProtoW ProtoErrW ProtoBytesW in
def protoB (l : List Int) : List Int × Int × Int :=
  match bytesV l with
  | none => ([], 0, 1)
  | some (v, n) => ((l.drop n.toNat).take v.toNat, n + v, 0)
theorem pb_one (w : World) : Calls Tryd.prog 36 #[.nilIface] w fun e w' => e = .returned (.int .i64 0) ∧ w' = w := by
  go_enter Tryd.func36, Tryd.ntmps36
  go_wp2
  go_ret
  exact ⟨rfl, rfl⟩
open ProtoW ProtoErrW ProtoBytesW in
set_option maxHeartbeats 8000000 in
set_option maxRecDepth 100000 in
theorem impl_ProtoBytes.walk (A : Option Addr) (c : Nat) (l : List Int) (w : World) (h : Row8 w A c l) (hE : ErrLaid w) :
    Calls Tryd.prog 12 #[.slice A l.length c] w fun e w' => ∃ v0_ : Value, e = .returned (.tuple #[v0_, .int .i64 (protoB l).2.1, .int .i64 (protoB l).2.2]) ∧ Kd.R (Kd.int .u8) 5 w' w.heap.size (fun _ => True) v0_ (protoB l).1 ∧ Below w.heap.size w w' := by
  unfold protoB
  cases hv : bytesV l with
  | none =>
    have H := Aside0.mk h
    have HV := Aside0.mk hv
    have HE := Aside0.mk hE
    clear h hv hE
    go_enter Tryd.func12, Tryd.ntmps12
    go_wp2_with fail
    refine (door_none A c l w H.out HV.out HE.out).mono ?_
    rintro e w1 ⟨t, u, rfl, hb1⟩
    have HB1 := Aside0.mk hb1
    clear hb1
    go_wp2_with fail
    go_ret3
    exact ⟨_, rfl, Kd.R_nil _ _ _ _ _, HB1.out⟩
  | some p =>
    obtain ⟨v', n'⟩ := p
    have hs : ∃ hz : scanV 0 0 l = some (v', n'), ¬ v' > (l.length : Int) - n' := by
      unfold bytesV at hv
      cases hz : scanV 0 0 l with
      | none => rw [hz] at hv; simp at hv
      | some q =>
        obtain ⟨v2, n2⟩ := q
        rw [hz] at hv
        simp only at hv
        split at hv
        · simp at hv
        · rename_i hle
          simp only [Option.some.injEq, Prod.mk.injEq] at hv
          obtain ⟨rfl, rfl⟩ := hv
          exact ⟨rfl, hle⟩
    obtain ⟨hsc, hle⟩ := hs
    have hz := scanV_size l 0 0 v' n' (by decide) hsc
    have hne : 0 < l.length := List.length_pos_iff.2 (by intro e; rw [e] at hsc; simp [scanV] at hsc)
    obtain ⟨ad, rfl, hq⟩ := h.cells 0 hne
    clear hq
    obtain ⟨k, rfl⟩ := Int.eq_ofNat_of_zero_le (show 0 ≤ n' by omega)
    obtain ⟨m, rfl⟩ := Int.eq_ofNat_of_zero_le (show 0 ≤ v' by omega)
    have hcp := h.cap
    obtain ⟨s, hsn⟩ : ∃ s, s = k + m := ⟨_, rfl⟩
    have es : (k : Int) + (m : Int) = (s : Int) := by omega
    have k1 := eq_true (show k ≤ s by omega)
    have k2 := eq_true (show (k : Int) ≤ (s : Int) by omega)
    have k3 := eq_true (show (0 : Int) ≤ (k : Int) by omega)
    have k4 := eq_true (show s ≤ c by omega)
    have k5 := eq_true (show (s : Int) ≤ (c : Int) by omega)
    have k6 := eq_true (show (0 : Int) ≤ (s : Int) by omega)
    have hd := door_some (some ad) c l (m : Int) (k : Int) w h hv
    rw [es] at hd
    have HD := Aside0.mk hd
    have H := Aside0.mk h
    have HV := Aside0.mk hv
    have HSC := Aside0.mk hsc
    have HS := Aside0.mk hsn
    have HKM := Aside0.mk (show k + m ≤ l.length by omega)
    simp only [Int.toNat_natCast]
    rw [es]
    clear h hv hz hle hcp hne hE hsc hd hsn es
    go_enter Tryd.func12, Tryd.ntmps12
    go_wp2_with fail
    refine HD.out.mono ?_
    rintro e w1 ⟨rfl, hb1⟩
    have HB1 := Aside0.mk hb1
    clear hb1
    go_wp2_with fail
    refine (door_scan (some ad) c l (m : Int) (k : Int) w1 (H.out.below HB1.out) HSC.out).mono ?_
    rintro e w2 ⟨rfl, hb2⟩
    have HB2 := Aside0.mk (below_step HB1.out hb2)
    clear hb2
    go_wp2_with fail
    · have hm0 : m = 0 := by have := of_eq_true k4; have := HS.out; omega
      subst hm0
      have hL : (l.drop k).take 0 = ([] : List Int) := List.take_zero ..
      have HLE := Aside0.mk hL
      clear hL
      have hC : Kd.C (Kd.int .u8) w2 (some ad) ([] : List Int).length [] := Kd.C_of_reads (enc := Value.int .u8) (d := (0 : Int)) (h1 := fun _ => rfl) ⟨rfl, by simp, fun hn => absurd hn (by simp)⟩
      have hk := impl_copied.calls (some ad) 0 [] [] w2 hC (by simp) (by simp [impl_copied.f])
      rw [show ([] : List Int).length = s - k by have := HS.out; simp; omega] at hk
      refine hk.mono ?_
      rintro e w3 ⟨v3, rfl, ho3, hb3⟩
      have HO3 := Aside0.mk (Kd.own_of_R ho3)
      have HB3 := Aside0.mk (below_step HB2.out hb3)
      have HSZ := Aside0.mk HB2.out.size
      clear ho3 hb3
      go_wp2_with fail
      refine (pb_one w3).mono ?_
      rintro e w4 ⟨rfl, rfl⟩
      go_wp2_with fail
      go_ret3
      refine ⟨_, rfl, ?_, HB3.out⟩
      rw [HLE.out]
      exact Kd.R_of_own (enc := Value.int .u8) (HO3.out.mono HSZ.out) (fun _ _ => trivial)
    · have hlen : ((l.drop k).take m).length = s - k := by have := HS.out; have := HKM.out; simp; omega
      have hsmall : s - k < 140737488355328 := by have := HS.out; have := HKM.out; have := H.out.small; have := H.out.bytes; omega
      have hk := impl_copied.calls (some (ad.add k)) (c - k) ((l.drop k).take m) ((l.drop k).take m) w2 (sub_C w2 ad c l k m (H.out.below HB2.out) HKM.out) (by rw [hlen]; exact Nat.sub_le_sub_right (of_eq_true k4) _) (by unfold impl_copied.f; simp only [Option.bind_some, List.nil_append, List.length_nil]; rw [if_pos (by rw [hlen]; omega)])
      rw [hlen] at hk
      refine hk.mono ?_
      rintro e w3 ⟨v3, rfl, ho3, hb3⟩
      have HO3 := Aside0.mk (Kd.own_of_R ho3)
      have HB3 := Aside0.mk (below_step HB2.out hb3)
      have HSZ := Aside0.mk HB2.out.size
      clear ho3 hb3
      go_wp2_with fail
      refine (pb_one w3).mono ?_
      rintro e w4 ⟨rfl, rfl⟩
      go_wp2_with fail
      go_ret3
      exact ⟨_, rfl, Kd.R_of_own (enc := Value.int .u8) (HO3.out.mono HSZ.out) (fun _ _ => trivial), HB3.out⟩


end Go.Proofs.YtmfblbjklmgncaaDoor.PFnProtoBytes
