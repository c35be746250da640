-- Written by hprint.py (this session's program, over the kit's printing program, with this session's own contracts in it). Not trusted: Lean checks it.
import Derived.Test.YtnkjlfadegjjoaaDoorPFnWheelDuex0
namespace Go.Proofs.YtnkjlfadegjjoaaDoor.PFnWheelDue
open Go.RowKit Go.Proofs.YtnkjlfadegjjoaaDoorW.PrintWords Go.Proofs.YtnkjlfadegjjoaaDoorW.PrintLast Go.Proofs.YtnkjlfadegjjoaaDoorW.PrintMore
attribute [local go_sem] max2_int min2_int max_two min_two max_three min_three max_four min_four   -- for this text's walks alone
set_option linter.unusedVariables false
set_option linter.unusedSimpArgs false

-- NOT PRINTED: function 8 (spec_Wheel)

-- NOT PRINTED: function 14 (spec_Fresh)

-- NOT PRINTED: function 6 (laws_turns)

-- NOT PRINTED: function 18 (thw_NewHashWheel)

/-! ### impl_one: function 25 -/
def impl_one.f (a0 : Option Int) : Option (Int) := if a0.isNone = true then (some 0) else (some 1)
set_option maxHeartbeats 8000000 in
set_option maxRecDepth 100000 in
theorem impl_one.calls (a0 : Option Int) (r : Int) (w : World) (h : impl_one.f a0 = some r) :
    Calls Tryd.prog 25 #[errW a0] w fun e w' => e = .returned (.int .i64 r) ∧ Drawn0 w w' := by
  have hu54 := Tryd.underlying54
  have H : (if a0.isNone = true then (some 0) else (some 1)) = some r := h
  clear h
  rcases a0 with _ | q249
  · have H1 : (some 0) = some r := by rw [if_pos (show (none : Option Int).isNone = true by rfl)] at H; exact H
    clear H
    have H := H1
    clear H1
    simp only [errW_none, errW_some]
    obtain rfl := Option.some.inj H
    go_enter Tryd.func25, Tryd.ntmps25
    go_wp2
    go_ret
    exact ⟨by first | rfl | (simp; done) | (simp [*]; done), by repeat (first | exact Drawn0.refl _ | apply Drawn0.step)⟩
  · have H1 : (some 1) = some r := by rw [if_neg (show ¬ (some q249).isNone = true by simp)] at H; exact H
    clear H
    have H := H1
    clear H1
    simp only [errW_none, errW_some]
    obtain rfl := Option.some.inj H
    go_enter Tryd.func25, Tryd.ntmps25
    go_wp2
    go_ret
    exact ⟨by first | rfl | (simp; done) | (simp [*]; done), by repeat (first | exact Drawn0.refl _ | apply Drawn0.step)⟩

-- NOT PRINTED: function 38 (thw_HashWheel_getPosition)

-- NOT PRINTED: function 39 (thw_newSlot)

-- NOT PRINTED: function 26 (thw_HashWheel_Add)

-- NOT PRINTED: function 27 (thw_HashWheel_Remove)

-- NOT PRINTED: function 28 (thw_HashWheel_Update)

-- NOT PRINTED: function 40 (thw_HashWheel_expireTasks)

-- NOT PRINTED: function 29 (thw_HashWheel_ExpireAt)

-- NOT PRINTED: function 19 (impl_turn)

-- NOT PRINTED: function 20 (thw_HashWheel_Count)

-- NOT PRINTED: function 9 (impl_WheelRun)

-- NOT PRINTED: function 7 (laws_awakeWheel)

/-! ### laws_stays: function 11 -/
def laws_stays.l0 : Nat → List (S34) → Int → Option (Bool)
  | 0, _, _ => none
  | k + 1, x0, x3 => if x3 < (x0.length : Int) then (if 0 ≤ x3 then (if ((rd_T34 x0 x3).f0) = 1 then (some false) else (if ((rd_T34 x0 x3).f0) = 2 then (some false) else (laws_stays.l0 k x0 (wrap64 (x3 + 1))))) else (none)) else (some true)
def laws_stays.f (k : Nat) (l0 : List (S34)) : Option (Bool) := laws_stays.l0 k l0 0
theorem laws_stays.mono_l : ∀ k, (∀ y0 y1, LeO (laws_stays.l0 k y0 y1) (laws_stays.l0 (k + 1) y0 y1))
  | 0 => fun _ _ r h => by simp [laws_stays.l0] at h
  | k + 1 => by
    have ih0 := laws_stays.mono_l k
    · intro y0 y1
      unfold laws_stays.l0
      repeat' first
      | (with_reducible exact ih0 _ _)
      | (with_reducible exact LeO.refl _)
      | (with_reducible exact LeO.none _)
      | (with_reducible refine LeO.ite ?_ ?_)
      | (with_reducible refine LeO.bind ?_ (fun _ => ?_))
      | exact ih0 _ _
      | exact LeO.none _
      | refine LeO.ite ?_ ?_
      | refine LeO.bind ?_ (fun _ => ?_)
theorem laws_stays.mono : ∀ a0 k, LeO (laws_stays.f k a0) (laws_stays.f (k + 1) a0) := by
  intro a0 k
  have ih0 := laws_stays.mono_l k
  unfold laws_stays.f
  repeat' first
      | (with_reducible exact ih0 _ _)
      | (with_reducible exact LeO.refl _)
      | (with_reducible exact LeO.none _)
      | (with_reducible refine LeO.ite ?_ ?_)
      | (with_reducible refine LeO.bind ?_ (fun _ => ?_))
      | exact ih0 _ _
      | exact LeO.none _
      | refine LeO.ite ?_ ?_
      | refine LeO.bind ?_ (fun _ => ?_)
set_option maxHeartbeats 8000000 in
set_option maxRecDepth 100000 in
theorem laws_stays.calls (k : Nat) (A0 : Option Addr) (c0 : Nat) (l0 : List (S34)) (r : Bool) (w : World) (hr0 : Kd.C k34 w A0 l0.length l0) (hc0 : l0.length ≤ c0) (h : laws_stays.f k l0 = some r) :
    Calls Tryd.prog 11 #[.slice A0 l0.length c0] w fun e w' => e = .returned (.bool r) ∧ Drawn0 w w' := by
  have HR0 := Aside0.mk hr0
  have HC0 := Aside0.mk hc0
  clear hr0 hc0
  have H : (laws_stays.l0 k l0 0) = some r := h
  clear h
  have H' := Aside0.mk H
  clear H
  go_enter Tryd.func11, Tryd.ntmps11
  go_wp2
  go_loopg [3] k (fun kq v3 w' => ∃ (x3_1 : Int), v3 = .int .i64 x3_1 ∧ Aside0 (laws_stays.l0 kq l0 x3_1 = some r) ∧ Aside0 (kq ≤ k) ∧ Drawn0 w w')
  case atStart => exact ⟨(0), (by first | rfl | (simp; done) | (simp [*]; done)), H', ⟨Nat.le_refl _⟩, by repeat (first | exact Drawn0.refl _ | apply Drawn0.step)⟩
  case round =>
    clear H'
    try clear c1
    obtain ⟨x3_1, rfl, HA, HK1, ⟨m1, rfl⟩⟩ := hrel
    cases gk with
    | zero => exact absurd HA.out (by simp [laws_stays.l0])
    | succ k1 =>
      have H := HA.out
      clear HA
      simp only [laws_stays.l0] at H
      by_cases c2 : x3_1 < (l0.length : Int)
      · rw [if_pos c2] at H
        have c2b0 : decide (x3_1 < (l0.length : Int)) = true := decide_eq_true c2
        clear c2
        by_cases c3 : 0 ≤ x3_1
        · rw [if_pos c3] at H
          have c3b0 : decide (0 ≤ x3_1) = true := decide_eq_true c3
          clear c3
          by_cases c4 : ((rd_T34 l0 x3_1).f0) = 1
          · rw [if_pos c4] at H
            have c4b0 : (((rd_T34 l0 x3_1).f0) == 1) = true := beq_iff_eq.mpr c4
            have c4b1 : (((rd_T34 l0 x3_1).f0) != 1) = false := bne_eq_false_iff_eq.mpr c4
            clear c4
            obtain rfl := Option.some.inj H
            have p253 : 0 ≤ (x3_1 : Int) := of_decide_eq_true (by first | (with_reducible assumption) | assumption)
            have q253 : x3_1 < (l0.length : Int) := of_decide_eq_true (by first | (with_reducible assumption) | assumption)
            obtain ⟨ad253, e253, hx253_0, hx253_1, hx253_2, hx253_3, hx253_4⟩ := at_T34 HR0.out x3_1 p253 q253
            cases e253
            replace p253 := eq_true p253
            replace q253 := eq_true q253
            go_wp2
            go_ret
            exact ⟨by first | rfl | (simp; done) | (simp [*]; done), by repeat (first | exact Drawn0.refl _ | apply Drawn0.step)⟩
          · rw [if_neg c4] at H
            have c4b0 : (((rd_T34 l0 x3_1).f0) == 1) = false := beq_eq_false_iff_ne.mpr c4
            have c4b1 : (((rd_T34 l0 x3_1).f0) != 1) = true := bne_iff_ne.mpr c4
            by_cases c5 : ((rd_T34 l0 x3_1).f0) = 2
            · rw [if_pos c5] at H
              have c5b0 : (((rd_T34 l0 x3_1).f0) == 2) = true := beq_iff_eq.mpr c5
              have c5b1 : (((rd_T34 l0 x3_1).f0) != 2) = false := bne_eq_false_iff_eq.mpr c5
              clear c5
              obtain rfl := Option.some.inj H
              have p253 : 0 ≤ (x3_1 : Int) := of_decide_eq_true (by first | (with_reducible assumption) | assumption)
              have q253 : x3_1 < (l0.length : Int) := of_decide_eq_true (by first | (with_reducible assumption) | assumption)
              obtain ⟨ad253, e253, hx253_0, hx253_1, hx253_2, hx253_3, hx253_4⟩ := at_T34 HR0.out x3_1 p253 q253
              cases e253
              replace p253 := eq_true p253
              replace q253 := eq_true q253
              have p254 : 0 ≤ (x3_1 : Int) := of_decide_eq_true (by first | (with_reducible assumption) | assumption)
              have q254 : x3_1 < (l0.length : Int) := of_decide_eq_true (by first | (with_reducible assumption) | assumption)
              obtain ⟨ad254, e254, hx254_0, hx254_1, hx254_2, hx254_3, hx254_4⟩ := at_T34 HR0.out x3_1 p254 q254
              obtain rfl : ad253 = ad254 := (by injection e254)
              replace p254 := eq_true p254
              replace q254 := eq_true q254
              go_wp2
              go_ret
              exact ⟨by first | rfl | (simp; done) | (simp [*]; done), by repeat (first | exact Drawn0.refl _ | apply Drawn0.step)⟩
            · rw [if_neg c5] at H
              have c5b0 : (((rd_T34 l0 x3_1).f0) == 2) = false := beq_eq_false_iff_ne.mpr c5
              have c5b1 : (((rd_T34 l0 x3_1).f0) != 2) = true := bne_iff_ne.mpr c5
              have H' := Aside0.mk H
              clear H
              have p253 : 0 ≤ (x3_1 : Int) := of_decide_eq_true (by first | (with_reducible assumption) | assumption)
              have q253 : x3_1 < (l0.length : Int) := of_decide_eq_true (by first | (with_reducible assumption) | assumption)
              obtain ⟨ad253, e253, hx253_0, hx253_1, hx253_2, hx253_3, hx253_4⟩ := at_T34 HR0.out x3_1 p253 q253
              cases e253
              replace p253 := eq_true p253
              replace q253 := eq_true q253
              have p254 : 0 ≤ (x3_1 : Int) := of_decide_eq_true (by first | (with_reducible assumption) | assumption)
              have q254 : x3_1 < (l0.length : Int) := of_decide_eq_true (by first | (with_reducible assumption) | assumption)
              obtain ⟨ad254, e254, hx254_0, hx254_1, hx254_2, hx254_3, hx254_4⟩ := at_T34 HR0.out x3_1 p254 q254
              obtain rfl : ad253 = ad254 := (by injection e254)
              replace p254 := eq_true p254
              replace q254 := eq_true q254
              go_wp2
              go_roundg k1
              case measure => have := HK1.out; omega
              case rel => exact ⟨(wrap64 (x3_1 + 1)), (by first | rfl | (simp; done) | (simp [*]; done)), H', ⟨by have := HK1.out; omega⟩, by repeat (first | exact Drawn0.refl _ | apply Drawn0.step)⟩
        · rw [if_neg c3] at H
          exact absurd H (by simp)
      · rw [if_neg c2] at H
        have c2b0 : decide (x3_1 < (l0.length : Int)) = false := decide_eq_false c2
        clear c2
        obtain rfl := Option.some.inj H
        go_wp2
        go_ret
        exact ⟨by first | rfl | (simp; done) | (simp [*]; done), by repeat (first | exact Drawn0.refl _ | apply Drawn0.step)⟩

-- NOT PRINTED: function 22 (thw_HashWheel_GetNextExpiration)

-- NOT PRINTED: function 12 (impl_WheelNext)

/-! ### laws_FnWheelDue: function 4 -/
-- LAID YtnkjlfadegjjoaaDoor.WhA.WLaid | ⟨⟨_, _, C0⟩⟩
section
open _root_.Go.Proofs.YtnkjlfadegjjoaaDoor.WhA _root_.Go.Proofs.YtnkjlfadegjjoaaDoor.WhC _root_.Go.Proofs.YtnkjlfadegjjoaaDoor.WhT _root_.Go.Proofs.YtnkjlfadegjjoaaDoor.WhD
def laws_FnWheelDue.ts (l : List S34) : List Trn := l.map (fun a => (a.f0, a.f1, a.f2, a.f3, a.f4))
def laws_FnWheelDue.f (l0 : List (S34)) (a1 : Int) : Option Bool := if l0.all (fun a => decide (0 ≤ a.f1) && decide (a.f1 < 18446744073709551616)) = true then some true else none
theorem laws_FnWheelDue.tsAt {w : World} {A : Option Addr} {l : List S34} (h : Kd.C k34 w A l.length l) : Kd.C kTr w A (laws_FnWheelDue.ts l).length (laws_FnWheelDue.ts l) := by
  obtain ⟨h1, h2, h3⟩ := h
  have hl : (laws_FnWheelDue.ts l).length = l.length := List.length_map _
  refine ⟨rfl, by rw [hl]; exact h2, fun hn => ?_⟩
  obtain ⟨ad, e, hc⟩ := h3 (by rw [hl] at hn; exact hn)
  refine ⟨ad, e, fun j p hj => ?_⟩
  unfold laws_FnWheelDue.ts at hj
  rw [List.getElem?_map] at hj
  obtain ⟨y, hy, rfl⟩ := Option.map_eq_some_iff.1 hj
  exact hc j y hy
theorem laws_FnWheelDue.wfs {l : List S34} (h : l.all (fun a => decide (0 ≤ a.f1) && decide (a.f1 < 18446744073709551616)) = true) : ∀ i, i < (laws_FnWheelDue.ts l).length → wfU (rdTr (laws_FnWheelDue.ts l) i).2.1 := fun i hi => by
  have hl : (laws_FnWheelDue.ts l).length = l.length := List.length_map _
  have hi' : i < l.length := by rw [← hl]; exact hi
  have := List.all_eq_true.1 h (l[i]'hi') (List.getElem_mem hi')
  simp only [Bool.and_eq_true, decide_eq_true_eq] at this
  have e : rdTr (laws_FnWheelDue.ts l) i = ((l[i]'hi').f0, (l[i]'hi').f1, (l[i]'hi').f2, (l[i]'hi').f3, (l[i]'hi').f4) := by
    unfold rdTr laws_FnWheelDue.ts
    rw [List.getD_eq_getElem?_getD, List.getElem?_map, List.getElem?_eq_getElem hi']
    rfl
  rw [e]
  exact this
theorem laws_FnWheelDue.calls (A0 : Option Addr) (c0 : Nat) (l0 : List (S34)) (a1 : Int) (r : Bool) (w : World) (hr0 : Kd.C k34 w A0 l0.length l0) (hc0 : l0.length ≤ c0) (h : laws_FnWheelDue.f l0 a1 = some r) (hE : WLaid w) :
    Calls Tryd.prog 4 #[.slice A0 l0.length c0, .int .i64 a1] w fun e w' => e = .returned (.bool r) ∧ Below w.heap.size w w' := by
  unfold laws_FnWheelDue.f at h
  split at h
  · rename_i hc
    obtain rfl := Option.some.inj h
    have hl : (laws_FnWheelDue.ts l0).length = l0.length := List.length_map _
    have := due_calls (laws_FnWheelDue.ts l0) a1 A0 c0 w (laws_FnWheelDue.tsAt hr0) (by rw [hl]; exact hc0) hE (laws_FnWheelDue.wfs hc)
    rw [hl] at this
    exact this
  · exact absurd h (by simp)
end




end Go.Proofs.YtnkjlfadegjjoaaDoor.PFnWheelDue
