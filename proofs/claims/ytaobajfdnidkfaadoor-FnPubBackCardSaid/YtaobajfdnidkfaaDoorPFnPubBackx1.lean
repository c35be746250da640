-- Written by hprint.py (this session's program, over the kit's printing program, with this session's own contracts in it). Not trusted: Lean checks it.
import Derived.Test.YtaobajfdnidkfaaDoorPFnPubBackx0
namespace Go.Proofs.YtaobajfdnidkfaaDoor.PFnPubBack
open Go.RowKit Go.Proofs.YtaobajfdnidkfaaDoorW.PrintWords Go.Proofs.YtaobajfdnidkfaaDoorW.PrintLast Go.Proofs.YtaobajfdnidkfaaDoorW.PrintMore
attribute [local go_sem] max2_int min2_int max_two min_two max_three min_three max_four min_four   -- for this text's walks alone
set_option linter.unusedVariables false
set_option linter.unusedSimpArgs false

/-! ### server_parseSize: function 22 -/
/-- Digits from the left, behind a number; -1: some byte is none. -/
def sizeGo : Int → List Int → Int
  | n, [] => n
  | n, d :: l => if d < 48 ∨ 57 < d then -1 else sizeGo (n * 10 + (d - 48)) l
def server_parseSize.f (l0 : List Int) : Option Int := some (if l0.length = 0 ∨ 9 < l0.length then -1 else sizeGo 0 l0)
theorem sizeGo_at (n : Int) (l : List Int) (i : Nat) (h : i < l.length) : sizeGo n (l.drop i) = if rd l (i : Int) < 48 ∨ 57 < rd l (i : Int) then -1 else sizeGo (n * 10 + (rd l (i : Int) - 48)) (l.drop (i + 1)) := by
  rw [List.drop_eq_getElem_cons h, sizeGo]
  have e : rd l (i : Int) = l[i] := by unfold rd; simp [h]
  rw [e]
/-- The number's bound behind i digits. -/
def Dig (n : Int) (i : Nat) : Prop := 0 ≤ n ∧ (n < 10 ^ i ∧ i ≤ 9)
theorem Dig.le {n : Int} {i : Nat} (h : Dig n i) : 0 ≤ n ∧ n < 1000000000 := by
  obtain ⟨h0, h1, h2⟩ := h
  refine ⟨h0, Int.lt_of_lt_of_le h1 ?_⟩
  have : (10 : Int) ^ i ≤ 10 ^ 9 := by
    have := Nat.pow_le_pow_right (show 0 < 10 by omega) h2
    exact_mod_cast this
  simpa using this
theorem Dig.next {n d : Int} {i : Nat} (h : Dig n i) (hi : i < 9) (h1 : ¬ d < 48) (h2 : ¬ 57 < d) : Dig (n * 10 + (d - 48)) (i + 1) := by
  obtain ⟨h0, h3, _⟩ := h
  refine ⟨by omega, ?_, by omega⟩
  rw [Int.pow_succ]
  omega
set_option maxHeartbeats 8000000 in
set_option maxRecDepth 100000 in
theorem server_parseSize.calls (A0 : Option Addr) (c0 : Nat) (l0 : List Int) (r : Int) (w : World) (hr0 : Kd.C (Kd.int .u8) w A0 l0.length l0) (hc0 : l0.length ≤ c0) (h : server_parseSize.f l0 = some r) :
    Calls Tryd.prog 22 #[.slice A0 l0.length c0] w fun e w' => e = .returned (.int .i64 r) ∧ Drawn0 w w' := by
  have H := Option.some.inj h
  clear h
  by_cases h0 : l0.length = 0
  · rw [if_pos (.inl h0)] at H
    have b1 : ((l0.length : Int) == 0) = true := beq_iff_eq.2 (by omega)
    have b2 : (l0.length == 0) = true := beq_iff_eq.2 (by omega)
    have HH := Aside0.mk H
    clear H h0
    go_enter Tryd.func22, Tryd.ntmps22
    go_wp2
    refine wp_scope_jumps 0 (fun _ _ => False) (fun _ _ => 0) rfl ?_ ?_
    · go_wp2
      simp only [Exit.jump]
      go_ret
      exact ⟨by rw [← HH.out]; rfl, Drawn0.refl _⟩
    · intro a' w' hf
      exact hf.elim
  · have b1 : ((l0.length : Int) == 0) = false := beq_eq_false_iff_ne.2 (by omega)
    have b2 : (l0.length == 0) = false := beq_eq_false_iff_ne.2 (by omega)
    by_cases h9 : 9 < l0.length
    · rw [if_pos (.inr h9)] at H
      have b3 : decide (9 < (l0.length : Int)) = true := decide_eq_true (by omega)
      have b4 : decide (9 < l0.length) = true := decide_eq_true (by omega)
      have HH := Aside0.mk H
      clear H h0 h9
      go_enter Tryd.func22, Tryd.ntmps22
      go_wp2
      refine wp_scope_jumps 0 (fun _ _ => False) (fun _ _ => 0) rfl ?_ ?_
      · go_wp2
        simp only [Exit.jump]
        go_ret
        exact ⟨by rw [← HH.out]; rfl, Drawn0.refl _⟩
      · intro a' w' hf
        exact hf.elim
    · rw [if_neg (by omega)] at H
      have b3 : decide (9 < (l0.length : Int)) = false := decide_eq_false (by omega)
      have b4 : decide (9 < l0.length) = false := decide_eq_false (by omega)
      have HH := Aside0.mk H
      have HR0 := Aside0.mk hr0
      have L0 := Aside0.mk h0
      have L9 := Aside0.mk h9
      clear H h0 h9 hr0 hc0
      go_enter Tryd.func22, Tryd.ntmps22
      go_wp2
      refine wp_scope_jumps 0 (fun a' w' => Aside0 (Drawn0 w w') ∧ ∃ (i : Nat) (n : Int) (u1 u5 u6 u7 u8 u9 u10 u11 u12 u13 u14 u15 u16 u17 u18 u19 u20 u21 u22 u23 u24 u25 u26 u27 u28 u29 u30 u31 u32 u33 u34 u35 : Value), a' = { tmps := #[.slice A0 l0.length c0, u1, .int .i64 n, .int .i64 (l0.length : Int), .int .i64 (i : Int), u5, u6, u7, u8, u9, u10, u11, u12, u13, u14, u15, u16, u17, u18, u19, u20, u21, u22, u23, u24, u25, u26, u27, u28, u29, u30, u31, u32, u33, u34, u35], defers := [] } ∧ Aside0 (i < l0.length ∧ Dig n i ∧ sizeGo n (l0.drop i) = r)) (fun a' _ => l0.length - (intOf (a'.tmps.getD 4 undef)).toNat) rfl ?_ ?_
      · go_wp2
        go_step3
        have hi : 0 < l0.length := by have := L0.out; omega
        have hs := HH.out
        rw [← List.drop_zero (l := l0), sizeGo_at 0 l0 0 hi] at hs
        have hd : Dig 0 0 := ⟨by omega, by simp, by omega⟩
        obtain ⟨ad, e1, hx0⟩ := Kd.at_int HR0.out ((0 : Nat) : Int) (by omega) (by omega)
        have hx : w.cell? ad = some (.int .u8 (rd l0 0)) := by simpa [Addr.add] using hx0
        clear hx0
        cases e1
        have hs' : (if rd l0 0 < 48 ∨ 57 < rd l0 0 then -1 else sizeGo (0 * 10 + (rd l0 0 - 48)) (l0.drop 1)) = r := hs
        clear hs
        have hpos : (0 : Int) < (l0.length : Int) := by omega
        by_cases c1 : rd l0 0 < 48
        · have b5 : decide (rd l0 0 < 48) = true := decide_eq_true c1
          rw [if_pos (.inl c1)] at hs'
          have HS := Aside0.mk hs'
          clear hs' c1 hd hi
          go_wp2
          simp only [Exit.jump]
          go_ret
          exact ⟨by rw [← HS.out]; rfl, Drawn0.refl _⟩
        · have b5 : decide (rd l0 0 < 48) = false := decide_eq_false c1
          by_cases c2 : 57 < rd l0 0
          · have b6 : decide (57 < rd l0 0) = true := decide_eq_true c2
            rw [if_pos (.inr c2)] at hs'
            have HS := Aside0.mk hs'
            clear hs' c1 c2 hd hi
            go_wp2
            simp only [Exit.jump]
            go_ret
            exact ⟨by rw [← HS.out]; rfl, Drawn0.refl _⟩
          · have b6 : decide (57 < rd l0 0) = false := decide_eq_false c2
            rw [if_neg (by omega)] at hs'
            have hd2 := hd.next (by omega) c1 c2
            rw [show (0 : Int) * 10 + (rd l0 0 - 48) = rd l0 0 - 48 by omega] at hs' hd2
            have HS := Aside0.mk hs'
            have HD2 := Aside0.mk hd2
            have g1 : 48 ≤ rd l0 0 := by omega
            have g2 : rd l0 0 ≤ 57 := by omega
            clear hs' hd2 hd c1 c2
            by_cases c3 : 1 < l0.length
            · have C3 := Aside0.mk c3
              have b7 : (1 : Int) < (l0.length : Int) := by omega
              clear c3
              go_wp2
              go_step3
              exact ⟨rfl, ⟨Drawn0.refl _⟩, 1, _, _, _, _, _, _, _, _, _, _, _, _, _, _, _, _, _, _, _, _, _, _, _, _, _, _, _, _, _, _, _, _, _, rfl, ⟨C3.out, HD2.out, HS.out⟩⟩
            · have hz : l0.drop 1 = [] := List.drop_of_length_le (by omega)
              have C3 := Aside0.mk hz
              have b7 : (l0.length : Int) ≤ 1 := by omega
              clear c3 hz
              go_wp2
              simp only [Exit.jump]
              go_ret
              exact ⟨by have := HS.out; rw [C3.out, sizeGo] at this; rw [← this]; rfl, Drawn0.refl _⟩
      · rintro a' w' ⟨HD, i, n, u1, u5, u6, u7, u8, u9, u10, u11, u12, u13, u14, u15, u16, u17, u18, u19, u20, u21, u22, u23, u24, u25, u26, u27, u28, u29, u30, u31, u32, u33, u34, u35, rfl, HI⟩
        obtain ⟨⟨m, rfl⟩⟩ := HD.out
        clear HD
        have hi := HI.out.1
        have hd := HI.out.2.1
        have hs := HI.out.2.2
        have hn := hd.le
        have hn0 := hn.1
        have hn1 := hn.2
        clear HI hn
        rw [sizeGo_at n l0 i hi] at hs
        obtain ⟨ad, e1, hx⟩ := Kd.at_int HR0.out (i : Int) (by omega) (by omega)
        cases e1
        simp only [Int.toNat_natCast] at hx
        have hs' := hs
        clear hs
        have hpos : (i : Int) < (l0.length : Int) := by omega
        have hl9 : i + 1 ≤ 9 := by have := L9.out; omega
        by_cases c1 : rd l0 (i : Int) < 48
        · have b5 : decide (rd l0 (i : Int) < 48) = true := decide_eq_true c1
          rw [if_pos (.inl c1)] at hs'
          have HS := Aside0.mk hs'
          clear hs' c1 hd hi
          go_wp2
          simp only [Exit.jump]
          go_ret
          exact ⟨by rw [← HS.out]; rfl, ⟨⟨m, rfl⟩⟩⟩
        · have b5 : decide (rd l0 (i : Int) < 48) = false := decide_eq_false c1
          by_cases c2 : 57 < rd l0 (i : Int)
          · have b6 : decide (57 < rd l0 (i : Int)) = true := decide_eq_true c2
            rw [if_pos (.inr c2)] at hs'
            have HS := Aside0.mk hs'
            clear hs' c1 c2 hd hi
            go_wp2
            simp only [Exit.jump]
            go_ret
            exact ⟨by rw [← HS.out]; rfl, ⟨⟨m, rfl⟩⟩⟩
          · have b6 : decide (57 < rd l0 (i : Int)) = false := decide_eq_false c2
            rw [if_neg (by omega)] at hs'
            have hd2 := hd.next (by omega) c1 c2
            have HS := Aside0.mk hs'
            have HD2 := Aside0.mk hd2
            have g1 : 48 ≤ rd l0 (i : Int) := by omega
            have g2 : rd l0 (i : Int) ≤ 57 := by omega
            clear hs' hd2 hd c1 c2
            by_cases c3 : (i + 1) < l0.length
            · have C3 := Aside0.mk c3
              have b7 : (i : Int) + 1 < (l0.length : Int) := by omega
              clear c3
              go_wp2
              go_step3
              exact ⟨rfl, ⟨⟨⟨⟨m, rfl⟩⟩⟩, i + 1, _, _, _, _, _, _, _, _, _, _, _, _, _, _, _, _, _, _, _, _, _, _, _, _, _, _, _, _, _, _, _, _, _, (by rfl), ⟨C3.out, HD2.out, HS.out⟩⟩, by simp [intOf]; have := C3.out; omega⟩
            · have hz : l0.drop (i + 1) = [] := List.drop_of_length_le (by omega)
              have C3 := Aside0.mk hz
              have b7 : (l0.length : Int) ≤ (i : Int) + 1 := by omega
              clear c3 hz
              go_wp2
              simp only [Exit.jump]
              go_ret
              exact ⟨by have := HS.out; rw [C3.out, sizeGo] at this; rw [← this]; rfl, ⟨⟨m, rfl⟩⟩⟩


-- NOT PRINTED: function 23 (errors_New)

-- NOT PRINTED: function 24 (atomic_LoadInt32)

-- NOT PRINTED: function 17 (server_client_processPub)

-- NOT PRINTED: function 12 (server_ReadPub)

/-! ### impl_copied: function 13 -/
def impl_copied.f (l0 : List Int) : Option (List Int) := (some (([] : List Int) : List Int)).bind fun y103 => (if y103.length + l0.length < 140737488355328 then (some (y103 ++ l0)) else (none))
set_option maxHeartbeats 8000000 in
set_option maxRecDepth 100000 in
theorem impl_copied.calls (A0 : Option Addr) (c0 : Nat) (l0 : List Int) (r : List Int) (w : World) (hr0 : Kd.C (Kd.int .u8) w A0 l0.length l0) (hc0 : l0.length ≤ c0) (h : impl_copied.f l0 = some r) :
    Calls Tryd.prog 13 #[.slice A0 l0.length c0] w fun e w' => ∃ v0_ : Value, e = .returned (v0_) ∧ Kd.R (Kd.int .u8) 5 w' w.heap.size (fun _ => True) v0_ r ∧ Below w.heap.size w w' := by
  have HR0 := Aside0.mk hr0
  have HC0 := Aside0.mk hc0
  clear hr0 hc0
  have HB := Aside0.mk (Below.refl w.heap.size w)
  have H : ((some (([] : List Int) : List Int)).bind fun y103 => (if y103.length + l0.length < 140737488355328 then (some (y103 ++ l0)) else (none))) = some r := h
  clear h
  obtain ⟨y103, hy103⟩ : ∃ y_ : List Int, y_ = (([] : List Int)) := ⟨_, rfl⟩
  replace H : (if y103.length + l0.length < 140737488355328 then (some (y103 ++ l0)) else (none)) = some r := by first | (rw [hy103]; with_reducible exact H) | (have H2_ := (Option.bind_some _ _).symm.trans H; rw [hy103]; with_reducible exact H2_) | (have H2_ := (Option.bind_some _ _).symm.trans H; with_reducible exact H2_) | with_reducible exact H | (rw [hy103]; exact H) | exact H
  have Ny103 := Aside0.mk hy103
  clear hy103
  by_cases c2 : y103.length + l0.length < 140737488355328
  · rw [if_pos c2] at H
    have LMc2 := Aside0.mk c2
    clear c2
    obtain ⟨y106, hy106⟩ : ∃ y_ : List Int, y_ = (y103 ++ l0) := ⟨_, rfl⟩
    replace H : (some y106) = some r := by first | (rw [hy106]; with_reducible exact H) | (have H2_ := (Option.bind_some _ _).symm.trans H; rw [hy106]; with_reducible exact H2_) | (have H2_ := (Option.bind_some _ _).symm.trans H; with_reducible exact H2_) | with_reducible exact H | (rw [hy106]; exact H) | exact H
    have Ny106 := Aside0.mk hy106
    clear hy106
    obtain rfl := Option.some.inj H
    go_enter Tryd.func13, Tryd.ntmps13
    go_wp2_with (first | ((with_reducible refine gate_dst (N := 3) rfl ?_); refine Kd.R_lit (Kd.int .u8) _ 5 ?hg (N := 3) ?hd (xs := ([] : List Int)) (inner := []) (ok := fun _ => True) (okp := fun _ => True) ?hr ?hp (fun _ hk => hk) trivial (Below.refl _ _) (Nat.le_refl _) (by simp) ?_; (case hd => rfl); (case hg => rfl); (case hr => first | (go_simp; done) | (go_simp; rfl)); (case hp => exact (Reps.none _ _)); intro v104 w3 ho4 hb hg_ hnew_; clear hg_ hnew_; (first | rw [← Ny103.out] at ho4 | (simp only [Int.reduceToNat] at ho4; rw [← Ny103.out] at ho4)); have n0_ := Aside0.mk (Kd.R_lower ho4 (below_size (by repeat (first | (with_reducible first | exact HB.out | apply below_alloc | apply pw_below_drewN | apply below_drew1) | exact HB.out)))); have n1_ := Aside0.mk (below_step (by repeat (first | (with_reducible first | exact HB.out | apply below_alloc | apply pw_below_drewN | apply below_drew1) | exact HB.out)) hb); clear HB; have HO105 := n0_; have HB := n1_; clear n0_ n1_; clear hb ho4) | ((with_reducible refine gate_builtin (b := .append) (xs := #[.tmp 3, .tmp 4]) rfl ?_); at_builtin; refine Kd.R_append_rows (Kd.int .u8) (w0 := w) w.heap.size rfl (.tmp 3) (.tmp 4) 22 5 (.int .u8 0) 1 rfl Tryd.underlying22 info5 rfl (by decide) (by omega) v104 y103 l0 _ _ _ (fun _ => True) (fun _ => False) rfl rfl ?aO ?aR (fun _ _ h => h) (fun _ h => h.elim) ?aF ?aB ?aS ?aL ?_; (case aR => repeat (first | exact (Kd.C_below HR0.out HB.out) | (with_reducible refine Kd.C_alloc ?_ _) | (with_reducible refine Kd.C_drewN ?_ _) | (with_reducible refine Kd.C_drew ?_))); (case aB => exact (by repeat (first | (with_reducible first | exact HB.out | apply below_alloc | apply pw_below_drewN | apply below_drew1) | exact HB.out))); (case aF => exact (fun _ _ => trivial)); (case aO => exact (by (with_reducible repeat (first | apply Kd.R_alloc | apply Kd.R_drewN | apply Kd.R_drew)); exact HO105.out)); (case aS => exact (below_size (by repeat (first | (with_reducible first | exact HB.out | apply below_alloc | apply pw_below_drewN | apply below_drew1) | exact HB.out)))); (case aL => have := LMc2.out; omega); intro v107 w5 ho hb hg hat; rw [← Ny106.out] at ho; have n0_ := Aside0.mk (hb); have n1_ := Aside0.mk (ho); clear HB; clear HO105; have HB := n0_; have HO108 := n1_; clear n0_ n1_; clear ho hb hg hat))
    go_ret
    exact ⟨_, by first | rfl | (simp [errW_none, errW_some] <;> rfl) | (simp [*, errW_none, errW_some] <;> rfl), by (with_reducible repeat (first | apply Kd.R_alloc | apply Kd.R_drewN | apply Kd.R_drew)); exact HO108.out, by repeat (first | (with_reducible first | exact HB.out | apply below_alloc | apply pw_below_drewN | apply below_drew1) | exact HB.out)⟩
  · rw [if_neg c2] at H
    exact absurd H (by simp)

-- NOT PRINTED: function 14 (impl_fault)

end Go.Proofs.YtaobajfdnidkfaaDoor.PFnPubBack
