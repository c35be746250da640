-- Written by hprint.py (this session's program, over the kit's printing program, with this session's own contracts in it). Not trusted: Lean checks it.
import Derived.Test.YtaobajfdnidkfaaPFnParseSizex0
namespace Go.Proofs.Ytaobajfdnidkfaa.PFnParseSize
open Go.RowKit Go.Proofs.YtaobajfdnidkfaaW.PrintWords Go.Proofs.YtaobajfdnidkfaaW.PrintLast Go.Proofs.YtaobajfdnidkfaaW.PrintMore
attribute [local go_sem] max2_int min2_int max_two min_two max_three min_three max_four min_four   -- for this text's walks alone
set_option linter.unusedVariables false
set_option linter.unusedSimpArgs false

/-! ### laws_short: function 31 -/
def laws_short.f (l0 : List Int) : Option (Bool) := some (decide ((l0.length : Int) ≤ 200))
set_option maxHeartbeats 8000000 in
set_option maxRecDepth 100000 in
theorem laws_short.calls (A0 : Option Addr) (c0 : Nat) (l0 : List Int) (r : Bool) (w : World) (hr0 : Kd.C (Kd.int .u8) w A0 l0.length l0) (hc0 : l0.length ≤ c0) (h : laws_short.f l0 = some r) :
    Calls Try.prog 31 #[.slice A0 l0.length c0] w fun e w' => e = .returned (.bool r) ∧ Drawn0 w w' := by
  have HR0 := Aside0.mk hr0
  have HC0 := Aside0.mk hc0
  clear hr0 hc0
  have H : (some (decide ((l0.length : Int) ≤ 200))) = some r := h
  clear h
  obtain rfl := Option.some.inj H
  go_enter Try.func31, Try.ntmps31
  go_wp2
  go_ret
  exact ⟨by first | rfl | (simp; done) | (simp [*]; done), by repeat (first | exact Drawn0.refl _ | apply Drawn0.step)⟩

/-! ### server_parseSize: function 64 -/
/-- Digits from the left, behind a number; -1: some byte is none. -/
def sizeGo : Int → List Int → Int
  | n, [] => n
  | n, d :: l => if d < 48 ∨ 57 < d then -1 else sizeGo (n * 10 + (d - 48)) l
def server_parseSize.f (l0 : List Int) : Option Int := some (if l0.length = 0 ∨ 9 < l0.length then -1 else sizeGo 0 l0)
theorem sizeGo_at (n : Int) (l : List Int) (i : Nat) (h : i < l.length) : sizeGo n (l.drop i) = if rd l (i : Int) < 48 ∨ 57 < rd l (i : Int) then -1 else sizeGo (n * 10 + (rd l (i : Int) - 48)) (l.drop (i + 1)) := by
  rw [List.drop_eq_getElem_cons h, sizeGo]
  have e : rd l (i : Int) = l[i] := by unfold rd; simp [h]
  rw [e]
/-- The number's bound behind i digits. -/
def Dig (n : Int) (i : Nat) : Prop := 0 ≤ n ∧ (n < 10 ^ i ∧ i ≤ 9)
theorem Dig.le {n : Int} {i : Nat} (h : Dig n i) : 0 ≤ n ∧ n < 1000000000 := by
  obtain ⟨h0, h1, h2⟩ := h
  refine ⟨h0, Int.lt_of_lt_of_le h1 ?_⟩
  have : (10 : Int) ^ i ≤ 10 ^ 9 := by
    have := Nat.pow_le_pow_right (show 0 < 10 by omega) h2
    exact_mod_cast this
  simpa using this
theorem Dig.next {n d : Int} {i : Nat} (h : Dig n i) (hi : i < 9) (h1 : ¬ d < 48) (h2 : ¬ 57 < d) : Dig (n * 10 + (d - 48)) (i + 1) := by
  obtain ⟨h0, h3, _⟩ := h
  refine ⟨by omega, ?_, by omega⟩
  rw [Int.pow_succ]
  omega
set_option maxHeartbeats 8000000 in
set_option maxRecDepth 100000 in
theorem server_parseSize.calls (A0 : Option Addr) (c0 : Nat) (l0 : List Int) (r : Int) (w : World) (hr0 : Kd.C (Kd.int .u8) w A0 l0.length l0) (hc0 : l0.length ≤ c0) (h : server_parseSize.f l0 = some r) :
    Calls Try.prog 64 #[.slice A0 l0.length c0] w fun e w' => e = .returned (.int .i64 r) ∧ Drawn0 w w' := by
  have H := Option.some.inj h
  clear h
  by_cases h0 : l0.length = 0
  · rw [if_pos (.inl h0)] at H
    have b1 : ((l0.length : Int) == 0) = true := beq_iff_eq.2 (by omega)
    have b2 : (l0.length == 0) = true := beq_iff_eq.2 (by omega)
    have HH := Aside0.mk H
    clear H h0
    go_enter Try.func64, Try.ntmps64
    go_wp2
    refine wp_scope_jumps 0 (fun _ _ => False) (fun _ _ => 0) rfl ?_ ?_
    · go_wp2
      simp only [Exit.jump]
      go_ret
      exact ⟨by rw [← HH.out]; rfl, Drawn0.refl _⟩
    · intro a' w' hf
      exact hf.elim
  · have b1 : ((l0.length : Int) == 0) = false := beq_eq_false_iff_ne.2 (by omega)
    have b2 : (l0.length == 0) = false := beq_eq_false_iff_ne.2 (by omega)
    by_cases h9 : 9 < l0.length
    · rw [if_pos (.inr h9)] at H
      have b3 : decide (9 < (l0.length : Int)) = true := decide_eq_true (by omega)
      have b4 : decide (9 < l0.length) = true := decide_eq_true (by omega)
      have HH := Aside0.mk H
      clear H h0 h9
      go_enter Try.func64, Try.ntmps64
      go_wp2
      refine wp_scope_jumps 0 (fun _ _ => False) (fun _ _ => 0) rfl ?_ ?_
      · go_wp2
        simp only [Exit.jump]
        go_ret
        exact ⟨by rw [← HH.out]; rfl, Drawn0.refl _⟩
      · intro a' w' hf
        exact hf.elim
    · rw [if_neg (by omega)] at H
      have b3 : decide (9 < (l0.length : Int)) = false := decide_eq_false (by omega)
      have b4 : decide (9 < l0.length) = false := decide_eq_false (by omega)
      have HH := Aside0.mk H
      have HR0 := Aside0.mk hr0
      have L0 := Aside0.mk h0
      have L9 := Aside0.mk h9
      clear H h0 h9 hr0 hc0
      go_enter Try.func64, Try.ntmps64
      go_wp2
      refine wp_scope_jumps 0 (fun a' w' => Aside0 (Drawn0 w w') ∧ ∃ (i : Nat) (n : Int) (u1 u5 u6 u7 u8 u9 u10 u11 u12 u13 u14 u15 u16 u17 u18 u19 u20 u21 u22 u23 u24 u25 u26 u27 u28 u29 u30 u31 u32 u33 u34 u35 : Value), a' = { tmps := #[.slice A0 l0.length c0, u1, .int .i64 n, .int .i64 (l0.length : Int), .int .i64 (i : Int), u5, u6, u7, u8, u9, u10, u11, u12, u13, u14, u15, u16, u17, u18, u19, u20, u21, u22, u23, u24, u25, u26, u27, u28, u29, u30, u31, u32, u33, u34, u35], defers := [] } ∧ Aside0 (i < l0.length ∧ Dig n i ∧ sizeGo n (l0.drop i) = r)) (fun a' _ => l0.length - (intOf (a'.tmps.getD 4 undef)).toNat) rfl ?_ ?_
      · go_wp2
        go_step3
        have hi : 0 < l0.length := by have := L0.out; omega
        have hs := HH.out
        rw [← List.drop_zero (l := l0), sizeGo_at 0 l0 0 hi] at hs
        have hd : Dig 0 0 := ⟨by omega, by simp, by omega⟩
        obtain ⟨ad, e1, hx0⟩ := Kd.at_int HR0.out ((0 : Nat) : Int) (by omega) (by omega)
        have hx : w.cell? ad = some (.int .u8 (rd l0 0)) := by simpa [Addr.add] using hx0
        clear hx0
        cases e1
        have hs' : (if rd l0 0 < 48 ∨ 57 < rd l0 0 then -1 else sizeGo (0 * 10 + (rd l0 0 - 48)) (l0.drop 1)) = r := hs
        clear hs
        have hpos : (0 : Int) < (l0.length : Int) := by omega
        by_cases c1 : rd l0 0 < 48
        · have b5 : decide (rd l0 0 < 48) = true := decide_eq_true c1
          rw [if_pos (.inl c1)] at hs'
          have HS := Aside0.mk hs'
          clear hs' c1 hd hi
          go_wp2
          simp only [Exit.jump]
          go_ret
          exact ⟨by rw [← HS.out]; rfl, Drawn0.refl _⟩
        · have b5 : decide (rd l0 0 < 48) = false := decide_eq_false c1
          by_cases c2 : 57 < rd l0 0
          · have b6 : decide (57 < rd l0 0) = true := decide_eq_true c2
            rw [if_pos (.inr c2)] at hs'
            have HS := Aside0.mk hs'
            clear hs' c1 c2 hd hi
            go_wp2
            simp only [Exit.jump]
            go_ret
            exact ⟨by rw [← HS.out]; rfl, Drawn0.refl _⟩
          · have b6 : decide (57 < rd l0 0) = false := decide_eq_false c2
            rw [if_neg (by omega)] at hs'
            have hd2 := hd.next (by omega) c1 c2
            rw [show (0 : Int) * 10 + (rd l0 0 - 48) = rd l0 0 - 48 by omega] at hs' hd2
            have HS := Aside0.mk hs'
            have HD2 := Aside0.mk hd2
            have g1 : 48 ≤ rd l0 0 := by omega
            have g2 : rd l0 0 ≤ 57 := by omega
            clear hs' hd2 hd c1 c2
            by_cases c3 : 1 < l0.length
            · have C3 := Aside0.mk c3
              have b7 : (1 : Int) < (l0.length : Int) := by omega
              clear c3
              go_wp2
              go_step3
              exact ⟨rfl, ⟨Drawn0.refl _⟩, 1, _, _, _, _, _, _, _, _, _, _, _, _, _, _, _, _, _, _, _, _, _, _, _, _, _, _, _, _, _, _, _, _, _, rfl, ⟨C3.out, HD2.out, HS.out⟩⟩
            · have hz : l0.drop 1 = [] := List.drop_of_length_le (by omega)
              have C3 := Aside0.mk hz
              have b7 : (l0.length : Int) ≤ 1 := by omega
              clear c3 hz
              go_wp2
              simp only [Exit.jump]
              go_ret
              exact ⟨by have := HS.out; rw [C3.out, sizeGo] at this; rw [← this]; rfl, Drawn0.refl _⟩
      · rintro a' w' ⟨HD, i, n, u1, u5, u6, u7, u8, u9, u10, u11, u12, u13, u14, u15, u16, u17, u18, u19, u20, u21, u22, u23, u24, u25, u26, u27, u28, u29, u30, u31, u32, u33, u34, u35, rfl, HI⟩
        obtain ⟨⟨m, rfl⟩⟩ := HD.out
        clear HD
        have hi := HI.out.1
        have hd := HI.out.2.1
        have hs := HI.out.2.2
        have hn := hd.le
        have hn0 := hn.1
        have hn1 := hn.2
        clear HI hn
        rw [sizeGo_at n l0 i hi] at hs
        obtain ⟨ad, e1, hx⟩ := Kd.at_int HR0.out (i : Int) (by omega) (by omega)
        cases e1
        simp only [Int.toNat_natCast] at hx
        have hs' := hs
        clear hs
        have hpos : (i : Int) < (l0.length : Int) := by omega
        have hl9 : i + 1 ≤ 9 := by have := L9.out; omega
        by_cases c1 : rd l0 (i : Int) < 48
        · have b5 : decide (rd l0 (i : Int) < 48) = true := decide_eq_true c1
          rw [if_pos (.inl c1)] at hs'
          have HS := Aside0.mk hs'
          clear hs' c1 hd hi
          go_wp2
          simp only [Exit.jump]
          go_ret
          exact ⟨by rw [← HS.out]; rfl, ⟨⟨m, rfl⟩⟩⟩
        · have b5 : decide (rd l0 (i : Int) < 48) = false := decide_eq_false c1
          by_cases c2 : 57 < rd l0 (i : Int)
          · have b6 : decide (57 < rd l0 (i : Int)) = true := decide_eq_true c2
            rw [if_pos (.inr c2)] at hs'
            have HS := Aside0.mk hs'
            clear hs' c1 c2 hd hi
            go_wp2
            simp only [Exit.jump]
            go_ret
            exact ⟨by rw [← HS.out]; rfl, ⟨⟨m, rfl⟩⟩⟩
          · have b6 : decide (57 < rd l0 (i : Int)) = false := decide_eq_false c2
            rw [if_neg (by omega)] at hs'
            have hd2 := hd.next (by omega) c1 c2
            have HS := Aside0.mk hs'
            have HD2 := Aside0.mk hd2
            have g1 : 48 ≤ rd l0 (i : Int) := by omega
            have g2 : rd l0 (i : Int) ≤ 57 := by omega
            clear hs' hd2 hd c1 c2
            by_cases c3 : (i + 1) < l0.length
            · have C3 := Aside0.mk c3
              have b7 : (i : Int) + 1 < (l0.length : Int) := by omega
              clear c3
              go_wp2
              go_step3
              exact ⟨rfl, ⟨⟨⟨⟨m, rfl⟩⟩⟩, i + 1, _, _, _, _, _, _, _, _, _, _, _, _, _, _, _, _, _, _, _, _, _, _, _, _, _, _, _, _, _, _, _, _, _, (by rfl), ⟨C3.out, HD2.out, HS.out⟩⟩, by simp [intOf]; have := C3.out; omega⟩
            · have hz : l0.drop (i + 1) = [] := List.drop_of_length_le (by omega)
              have C3 := Aside0.mk hz
              have b7 : (l0.length : Int) ≤ (i : Int) + 1 := by omega
              clear c3 hz
              go_wp2
              simp only [Exit.jump]
              go_ret
              exact ⟨by have := HS.out; rw [C3.out, sizeGo] at this; rw [← this]; rfl, ⟨⟨m, rfl⟩⟩⟩


/-! ### server_ParseSize: function 50 -/
def server_ParseSize.f (l0 : List Int) : Option (Int) := (server_parseSize.f l0).bind fun t101 => (some t101)
set_option maxHeartbeats 8000000 in
set_option maxRecDepth 100000 in
theorem server_ParseSize.calls (A0 : Option Addr) (c0 : Nat) (l0 : List Int) (r : Int) (w : World) (hr0 : Kd.C (Kd.int .u8) w A0 l0.length l0) (hc0 : l0.length ≤ c0) (h : server_ParseSize.f l0 = some r) :
    Calls Try.prog 50 #[.slice A0 l0.length c0] w fun e w' => e = .returned (.int .i64 r) ∧ Drawn0 w w' := by
  have HR0 := Aside0.mk hr0
  have HC0 := Aside0.mk hc0
  clear hr0 hc0
  have H : ((server_parseSize.f l0).bind fun t101 => (some t101)) = some r := h
  clear h
  replace H := Option.bind_eq_some_iff.mp H
  obtain ⟨t101, A20, H⟩ := H
  replace H : (some t101) = some r := H
  have A2 := Aside0.mk A20
  clear A20
  obtain rfl := Option.some.inj H
  go_enter Try.func50, Try.ntmps50
  go_wp2_with (first | ((with_reducible refine gate_callee (f := 64) rfl ?_); refine goesL_ (some 4) rfl rfl Try.func64 (by kernel_rfl) rfl #[.slice A0 l0.length c0] rfl (by (try simp only [List.map_toArray, List.map_cons, List.map_nil]); first | done | rfl | (simp only [List.length_drop, List.length_take]; rfl)) ?_; (with_reducible refine (server_parseSize.calls _ _ l0 t101 _ ?side1 ?side2 A2.out).mono ?_); (case side1 => repeat (first | exact HR0.out | (with_reducible refine Kd.C_alloc ?_ _) | (with_reducible refine Kd.C_drewN ?_ _) | (with_reducible refine Kd.C_drew ?_))); (case side2 => exact HC0.out); rintro e w' ⟨rfl, ⟨nd, rfl⟩⟩; refine ⟨_, rfl, ?_⟩))
  go_ret
  exact ⟨by first | rfl | (simp; done) | (simp [*]; done), by repeat (first | exact Drawn0.refl _ | apply Drawn0.step)⟩

/-! ### impl_ParseSize: function 32 -/
def impl_ParseSize.f (l0 : List Int) : Option (Int) := (server_ParseSize.f l0).bind fun t102 => (some t102)
set_option maxHeartbeats 8000000 in
set_option maxRecDepth 100000 in
theorem impl_ParseSize.calls (A0 : Option Addr) (c0 : Nat) (l0 : List Int) (r : Int) (w : World) (hr0 : Kd.C (Kd.int .u8) w A0 l0.length l0) (hc0 : l0.length ≤ c0) (h : impl_ParseSize.f l0 = some r) :
    Calls Try.prog 32 #[.slice A0 l0.length c0] w fun e w' => e = .returned (.int .i64 r) ∧ Drawn0 w w' := by
  have HR0 := Aside0.mk hr0
  have HC0 := Aside0.mk hc0
  clear hr0 hc0
  have H : ((server_ParseSize.f l0).bind fun t102 => (some t102)) = some r := h
  clear h
  replace H := Option.bind_eq_some_iff.mp H
  obtain ⟨t102, A20, H⟩ := H
  replace H : (some t102) = some r := H
  have A2 := Aside0.mk A20
  clear A20
  obtain rfl := Option.some.inj H
  go_enter Try.func32, Try.ntmps32
  go_wp2_with (first | ((with_reducible refine gate_callee (f := 50) rfl ?_); refine goesL_ (some 4) rfl rfl Try.func50 (by kernel_rfl) rfl #[.slice A0 l0.length c0] rfl (by (try simp only [List.map_toArray, List.map_cons, List.map_nil]); first | done | rfl | (simp only [List.length_drop, List.length_take]; rfl)) ?_; (with_reducible refine (server_ParseSize.calls _ _ l0 t102 _ ?side1 ?side2 A2.out).mono ?_); (case side1 => repeat (first | exact HR0.out | (with_reducible refine Kd.C_alloc ?_ _) | (with_reducible refine Kd.C_drewN ?_ _) | (with_reducible refine Kd.C_drew ?_))); (case side2 => exact HC0.out); rintro e w' ⟨rfl, ⟨nd, rfl⟩⟩; refine ⟨_, rfl, ?_⟩))
  go_ret
  exact ⟨by first | rfl | (simp; done) | (simp [*]; done), by repeat (first | exact Drawn0.refl _ | apply Drawn0.step)⟩

/-! ### spec_Size: function 33 -/
def spec_Size.l0 : Nat → ByteArray → Int → Int → Option (Int)
  | 0, _, _, _ => none
  | k + 1, x0, x3, x4 => if x4 < (x0.size : Int) then (if 0 ≤ x4 then (if (bt x0 x4) < 48 then (some (-1)) else (if (bt x0 x4) > 57 then (some (-1)) else (if (x0.size : Int) > 9 then (some (-1)) else (spec_Size.l0 k x0 (wrap64 ((wrap64 (10 * x3)) + (((bt x0 x4) - 48) % 256))) (wrap64 (x4 + 1)))))) else (none)) else (if x0.toList = ([] : List UInt8) then (some (-1)) else (some x3))
def spec_Size.f (k : Nat) (a0 : ByteArray) : Option (Int) := spec_Size.l0 k a0 0 0
theorem spec_Size.mono_l : ∀ k, (∀ y0 y1 y2, LeO (spec_Size.l0 k y0 y1 y2) (spec_Size.l0 (k + 1) y0 y1 y2))
  | 0 => fun _ _ _ r h => by simp [spec_Size.l0] at h
  | k + 1 => by
    have ih0 := spec_Size.mono_l k
    · intro y0 y1 y2
      unfold spec_Size.l0
      repeat' first
      | (with_reducible exact ih0 _ _ _)
      | (with_reducible exact LeO.refl _)
      | (with_reducible exact LeO.none _)
      | (with_reducible refine LeO.ite ?_ ?_)
      | (with_reducible refine LeO.bind ?_ (fun _ => ?_))
      | exact ih0 _ _ _
      | exact LeO.none _
      | refine LeO.ite ?_ ?_
      | refine LeO.bind ?_ (fun _ => ?_)
theorem spec_Size.mono : ∀ a0 k, LeO (spec_Size.f k a0) (spec_Size.f (k + 1) a0) := by
  intro a0 k
  have ih0 := spec_Size.mono_l k
  unfold spec_Size.f
  repeat' first
      | (with_reducible exact ih0 _ _ _)
      | (with_reducible exact LeO.refl _)
      | (with_reducible exact LeO.none _)
      | (with_reducible refine LeO.ite ?_ ?_)
      | (with_reducible refine LeO.bind ?_ (fun _ => ?_))
      | exact ih0 _ _ _
      | exact LeO.none _
      | refine LeO.ite ?_ ?_
      | refine LeO.bind ?_ (fun _ => ?_)
set_option maxHeartbeats 8000000 in
set_option maxRecDepth 100000 in
theorem spec_Size.calls (k : Nat) (a0 : ByteArray) (r : Int) (w : World) (h : spec_Size.f k a0 = some r) :
    Calls Try.prog 33 #[.string a0] w fun e w' => e = .returned (.int .i64 r) ∧ Drawn0 w w' := by
  have H : (spec_Size.l0 k a0 0 0) = some r := h
  clear h
  have H' := Aside0.mk H
  clear H
  go_enter Try.func33, Try.ntmps33
  go_wp2
  go_loopg [3, 4] k (fun kq v3 v4 w' => ∃ (x3_1 : Int) (x4_1 : Int), v3 = .int .i64 x3_1 ∧ v4 = .int .i64 x4_1 ∧ Aside0 (spec_Size.l0 kq a0 x3_1 x4_1 = some r) ∧ Aside0 (kq ≤ k) ∧ Drawn0 w w')
  case atStart => exact ⟨(0), (0), (by first | rfl | (simp; done) | (simp [*]; done)), (by first | rfl | (simp; done) | (simp [*]; done)), H', ⟨Nat.le_refl _⟩, by repeat (first | exact Drawn0.refl _ | apply Drawn0.step)⟩
  case round =>
    clear H'
    obtain ⟨x3_1, x4_1, rfl, rfl, HA, HK1, ⟨m1, rfl⟩⟩ := hrel
    cases gk with
    | zero => exact absurd HA.out (by simp [spec_Size.l0])
    | succ k1 =>
      have H := HA.out
      clear HA
      simp only [spec_Size.l0] at H
      by_cases c2 : x4_1 < (a0.size : Int)
      · rw [if_pos c2] at H
        have c2b0 : decide (x4_1 < (a0.size : Int)) = true := decide_eq_true c2
        clear c2
        by_cases c3 : 0 ≤ x4_1
        · rw [if_pos c3] at H
          have c3b0 : decide (0 ≤ x4_1) = true := decide_eq_true c3
          clear c3
          by_cases c5 : (bt a0 x4_1) < 48
          · rw [if_pos c5] at H
            have c5b0 : decide ((bt a0 x4_1) < 48) = true := decide_eq_true c5
            clear c5
            obtain rfl := Option.some.inj H
            have p4 : 0 ≤ (x4_1 : Int) := of_decide_eq_true (by first | (with_reducible assumption) | assumption)
            have q4 : x4_1 < (a0.size : Int) := of_decide_eq_true (by first | (with_reducible assumption) | assumption)
            have hx4 := bt_at a0 x4_1
            replace p4 := eq_true p4
            replace q4 := eq_true q4
            go_wp2
            go_ret
            exact ⟨by first | rfl | (simp; done) | (simp [*]; done), by repeat (first | exact Drawn0.refl _ | apply Drawn0.step)⟩
          · rw [if_neg c5] at H
            have c5b0 : decide ((bt a0 x4_1) < 48) = false := decide_eq_false c5
            clear c5
            by_cases c7 : (bt a0 x4_1) > 57
            · rw [if_pos c7] at H
              have c7b0 : decide (57 < (bt a0 x4_1)) = true := decide_eq_true c7
              clear c7
              obtain rfl := Option.some.inj H
              have p4 : 0 ≤ (x4_1 : Int) := of_decide_eq_true (by first | (with_reducible assumption) | assumption)
              have q4 : x4_1 < (a0.size : Int) := of_decide_eq_true (by first | (with_reducible assumption) | assumption)
              have hx4 := bt_at a0 x4_1
              replace p4 := eq_true p4
              replace q4 := eq_true q4
              have p6 : 0 ≤ (x4_1 : Int) := of_decide_eq_true (by first | (with_reducible assumption) | assumption)
              have q6 : x4_1 < (a0.size : Int) := of_decide_eq_true (by first | (with_reducible assumption) | assumption)
              have hx6 := bt_at a0 x4_1
              replace p6 := eq_true p6
              replace q6 := eq_true q6
              go_wp2
              go_ret
              exact ⟨by first | rfl | (simp; done) | (simp [*]; done), by repeat (first | exact Drawn0.refl _ | apply Drawn0.step)⟩
            · rw [if_neg c7] at H
              have c7b0 : decide (57 < (bt a0 x4_1)) = false := decide_eq_false c7
              clear c7
              by_cases c8 : (a0.size : Int) > 9
              · rw [if_pos c8] at H
                have c8b0 : decide (9 < (a0.size : Int)) = true := decide_eq_true c8
                have c8b1 : decide (9 < a0.size) = true := decide_eq_true (by omega)
                clear c8
                obtain rfl := Option.some.inj H
                have p4 : 0 ≤ (x4_1 : Int) := of_decide_eq_true (by first | (with_reducible assumption) | assumption)
                have q4 : x4_1 < (a0.size : Int) := of_decide_eq_true (by first | (with_reducible assumption) | assumption)
                have hx4 := bt_at a0 x4_1
                replace p4 := eq_true p4
                replace q4 := eq_true q4
                have p6 : 0 ≤ (x4_1 : Int) := of_decide_eq_true (by first | (with_reducible assumption) | assumption)
                have q6 : x4_1 < (a0.size : Int) := of_decide_eq_true (by first | (with_reducible assumption) | assumption)
                have hx6 := bt_at a0 x4_1
                replace p6 := eq_true p6
                replace q6 := eq_true q6
                go_wp2
                go_ret
                exact ⟨by first | rfl | (simp; done) | (simp [*]; done), by repeat (first | exact Drawn0.refl _ | apply Drawn0.step)⟩
              · rw [if_neg c8] at H
                have c8b0 : decide (9 < (a0.size : Int)) = false := decide_eq_false c8
                have c8b1 : decide (9 < a0.size) = false := decide_eq_false (by omega)
                clear c8
                have H' := Aside0.mk H
                clear H
                have p4 : 0 ≤ (x4_1 : Int) := of_decide_eq_true (by first | (with_reducible assumption) | assumption)
                have q4 : x4_1 < (a0.size : Int) := of_decide_eq_true (by first | (with_reducible assumption) | assumption)
                have hx4 := bt_at a0 x4_1
                replace p4 := eq_true p4
                replace q4 := eq_true q4
                have p6 : 0 ≤ (x4_1 : Int) := of_decide_eq_true (by first | (with_reducible assumption) | assumption)
                have q6 : x4_1 < (a0.size : Int) := of_decide_eq_true (by first | (with_reducible assumption) | assumption)
                have hx6 := bt_at a0 x4_1
                replace p6 := eq_true p6
                replace q6 := eq_true q6
                have p9 : 0 ≤ (x4_1 : Int) := of_decide_eq_true (by first | (with_reducible assumption) | assumption)
                have q9 : x4_1 < (a0.size : Int) := of_decide_eq_true (by first | (with_reducible assumption) | assumption)
                have hx9 := bt_at a0 x4_1
                replace p9 := eq_true p9
                replace q9 := eq_true q9
                go_wp2
                go_roundg k1
                case measure => have := HK1.out; omega
                case rel => exact ⟨(wrap64 ((wrap64 (10 * x3_1)) + (((bt a0 x4_1) - 48) % 256))), (wrap64 (x4_1 + 1)), (by first | rfl | (simp; done) | (simp [*]; done)), (by first | rfl | (simp; done) | (simp [*]; done)), H', ⟨by have := HK1.out; omega⟩, by repeat (first | exact Drawn0.refl _ | apply Drawn0.step)⟩
        · rw [if_neg c3] at H
          exact absurd H (by simp)
      · rw [if_neg c2] at H
        have c2b0 : decide (x4_1 < (a0.size : Int)) = false := decide_eq_false c2
        clear c2
        by_cases c10 : a0.toList = ([] : List UInt8)
        · rw [if_pos c10] at H
          have c10b0 : (a0.toList == ([] : List UInt8)) = true := beq_iff_eq.mpr c10
          have c10b1 : (a0.toList != ([] : List UInt8)) = false := bne_eq_false_iff_eq.mpr c10
          clear c10
          obtain rfl := Option.some.inj H
          go_wp2
          go_ret
          exact ⟨by first | rfl | (simp; done) | (simp [*]; done), by repeat (first | exact Drawn0.refl _ | apply Drawn0.step)⟩
        · rw [if_neg c10] at H
          have c10b0 : (a0.toList == ([] : List UInt8)) = false := beq_eq_false_iff_ne.mpr c10
          have c10b1 : (a0.toList != ([] : List UInt8)) = true := bne_iff_ne.mpr c10
          obtain rfl := Option.some.inj H
          go_wp2
          go_ret
          exact ⟨by first | rfl | (simp; done) | (simp [*]; done), by repeat (first | exact Drawn0.refl _ | apply Drawn0.step)⟩

end Go.Proofs.Ytaobajfdnidkfaa.PFnParseSize
