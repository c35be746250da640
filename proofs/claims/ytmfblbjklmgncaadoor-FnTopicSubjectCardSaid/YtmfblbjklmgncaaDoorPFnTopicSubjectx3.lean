-- Written by hprint.py (this session's program, over the kit's printing program, with this session's own contracts in it). Not trusted: Lean checks it.
import Derived.Test.YtmfblbjklmgncaaDoorPFnTopicSubjectx0
import Derived.Test.YtmfblbjklmgncaaDoorPFnTopicSubjectx2
namespace Go.Proofs.YtmfblbjklmgncaaDoor.PFnTopicSubject
open Go.RowKit Go.Proofs.YtmfblbjklmgncaaDoorW.PrintWords Go.Proofs.YtmfblbjklmgncaaDoorW.PrintLast Go.Proofs.YtmfblbjklmgncaaDoorW.PrintMore
attribute [local go_sem] max2_int min2_int max_two min_two max_three min_three max_four min_four   -- for this text's walks alone
set_option linter.unusedVariables false
set_option linter.unusedSimpArgs false

/-! ### server_subjectIsLiteral: function 59 -/
def server_subjectIsLiteral.f (a0 : ByteArray) : Option Bool := if a0.size ≤ 2147483647 then some (Road.litL true (Road.bl a0)) else none
set_option maxHeartbeats 8000000 in
set_option maxRecDepth 100000 in
theorem server_subjectIsLiteral.calls (a0 : ByteArray) (r : Bool) (w : World) (h : server_subjectIsLiteral.f a0 = some r) :
    Calls Tryd.prog 59 #[.string a0] w fun e w' => e = .returned (.bool r) ∧ Below w.heap.size w w' := by
  unfold server_subjectIsLiteral.f at h
  split at h
  · rename_i hs
    have hr := Option.some.inj h
    clear h
    have HS := Aside0.mk hs
    have HL := Aside0.mk (Road.LitAt.start hr)
    clear hs hr
    go_enter Tryd.func59, Tryd.ntmps59
    go_wp2
    go_loopw [2] (fun n w' => ∃ (pos : Nat), n = .bool false ∧ Aside0 (Road.LitAt a0 r pos) ∧ w'.heap[w.heap.size]? = some (.stringIter a0 pos) ∧ Aside0 (Below w.heap.size w w')) (fun _ w' => a0.size - w'.iterPos w.heap.size)
    case atStart => exact ⟨0, rfl, HL, Road.iter_new w a0, ⟨Road.below_iter (Below.refl _ _) _ _⟩⟩
    case round =>
      clear HL
      obtain ⟨pos, rfl, HR, hk, HB⟩ := hrel
      have hkw := Road.iter_pos _ _ _ _ hk
      by_cases hp : pos < a0.size
      · have hnx : ∀ ty, (Instr.next (.pointer (some ⟨w.heap.size, 0, none⟩)) true ty).run Tryd.prog _ = _ := fun ty => Go.Lib.run_next_any_at _ _ a0 pos ty hk hp
        have HW := Aside0.mk (Road.decode_one a0 pos hp)
        have HB2 := Aside0.mk (Go.Lib.below_iterAt HB.out (Nat.le_refl _) a0 (pos + (Utf8.decode a0 pos).2))
        have hk2 := Go.Lib.iterAt_heap _ w.heap.size a0 pos (pos + (Utf8.decode a0 pos).2) hk
        have HK2 := Aside0.mk hk2
        have HM := Aside0.mk (show ∀ (_ : ¬ ((((Utf8.decode a0 pos).1 : Int) = 42 ∨ ((Utf8.decode a0 pos).1 : Int) = 62) ∧ Road.litStart a0 pos ∧ Road.litEnd a0 pos)), Road.LitAt a0 r (pos + (Utf8.decode a0 pos).2) from Road.LitAt.miss HS.out HR.out hp)
        have HH := Aside0.mk (show ∀ (_ : ((Utf8.decode a0 pos).1 : Int) = 42 ∨ ((Utf8.decode a0 pos).1 : Int) = 62) (_ : Road.litStart a0 pos) (_ : Road.litEnd a0 pos), r = false from Road.LitAt.hit HS.out HR.out hp)
        have hd1 : (pos : Int) ≠ 0 → 0 ≤ wrap64 ((pos : Int) - 1) := by have := HS.out; unfold wrap64; omega
        have hd2 : wrap64 ((pos : Int) - 1) < (a0.size : Int) := by have := HS.out; unfold wrap64; omega
        have hd3 : 0 ≤ wrap64 ((pos : Int) + 1) := by have := HS.out; unfold wrap64; omega
        have hd4 : ¬ wrap64 ((pos : Int) + 1) = (a0.size : Int) → wrap64 ((pos : Int) + 1) < (a0.size : Int) := by have := HS.out; unfold wrap64; omega
        have HD1 := Aside0.mk hd1
        have HD4 := Aside0.mk hd4
        have hx1 := bt_at a0 (wrap64 ((pos : Int) - 1))
        have hx2 := bt_at a0 (wrap64 ((pos : Int) + 1))
        replace hd2 := eq_true hd2
        replace hd3 := eq_true hd3
        clear hd1 hd4 hk hk2 HR HB
        generalize hc : ((Utf8.decode a0 pos).1 : Int) = c at HM HH hnx
        clear hc
        by_cases c1 : c = 42
        · have c1b : (c == 42) = true := beq_iff_eq.mpr c1
          replace c1 := Aside0.mk c1
          by_cases e0 : (pos : Int) = 0
          · have e0b : ((pos : Int) == 0) = true := beq_iff_eq.mpr e0
            replace e0 := Aside0.mk e0
            by_cases f0 : wrap64 ((pos : Int) + 1) = (a0.size : Int)
            · have f0b : (wrap64 ((pos : Int) + 1) == (a0.size : Int)) = true := beq_iff_eq.mpr f0
              replace f0 := Aside0.mk f0
              have HF := HH.out (Or.inl c1.out) (Or.inl e0.out) (Or.inl f0.out)
              subst HF
              go_wp2
              go_ret
              exact ⟨rfl, HB2.out⟩
            · have f0b : (wrap64 ((pos : Int) + 1) == (a0.size : Int)) = false := beq_eq_false_iff_ne.mpr f0
              replace f0 := Aside0.mk f0
              have f1 := eq_true (HD4.out f0.out)
              by_cases f2 : bt a0 (wrap64 ((pos : Int) + 1)) = 46
              · have f2b : (bt a0 (wrap64 ((pos : Int) + 1)) == 46) = true := beq_iff_eq.mpr f2
                replace f2 := Aside0.mk f2
                have HF := HH.out (Or.inl c1.out) (Or.inl e0.out) (Or.inr f2.out)
                subst HF
                go_wp2
                go_ret
                exact ⟨rfl, HB2.out⟩
              · have f2b : (bt a0 (wrap64 ((pos : Int) + 1)) == 46) = false := beq_eq_false_iff_ne.mpr f2
                replace f2 := Aside0.mk f2
                have HR := Aside0.mk (HM.out (fun g => g.2.2.elim f0.out f2.out))
                go_wp2
                go_roundw
                case rel => exact ⟨_, rfl, HR, HK2.out, HB2⟩
                case measure => rw [Road.iter_pos _ _ _ _ HK2.out, hkw]; have := HW.out; omega
          · have e0b : ((pos : Int) == 0) = false := beq_eq_false_iff_ne.mpr e0
            replace e0 := Aside0.mk e0
            have e1 := eq_true (HD1.out e0.out)
            by_cases e2 : bt a0 (wrap64 ((pos : Int) - 1)) = 46
            · have e2b : (bt a0 (wrap64 ((pos : Int) - 1)) == 46) = true := beq_iff_eq.mpr e2
              replace e2 := Aside0.mk e2
              by_cases f0 : wrap64 ((pos : Int) + 1) = (a0.size : Int)
              · have f0b : (wrap64 ((pos : Int) + 1) == (a0.size : Int)) = true := beq_iff_eq.mpr f0
                replace f0 := Aside0.mk f0
                have HF := HH.out (Or.inl c1.out) (Or.inr e2.out) (Or.inl f0.out)
                subst HF
                go_wp2
                go_ret
                exact ⟨rfl, HB2.out⟩
              · have f0b : (wrap64 ((pos : Int) + 1) == (a0.size : Int)) = false := beq_eq_false_iff_ne.mpr f0
                replace f0 := Aside0.mk f0
                have f1 := eq_true (HD4.out f0.out)
                by_cases f2 : bt a0 (wrap64 ((pos : Int) + 1)) = 46
                · have f2b : (bt a0 (wrap64 ((pos : Int) + 1)) == 46) = true := beq_iff_eq.mpr f2
                  replace f2 := Aside0.mk f2
                  have HF := HH.out (Or.inl c1.out) (Or.inr e2.out) (Or.inr f2.out)
                  subst HF
                  go_wp2
                  go_ret
                  exact ⟨rfl, HB2.out⟩
                · have f2b : (bt a0 (wrap64 ((pos : Int) + 1)) == 46) = false := beq_eq_false_iff_ne.mpr f2
                  replace f2 := Aside0.mk f2
                  have HR := Aside0.mk (HM.out (fun g => g.2.2.elim f0.out f2.out))
                  go_wp2
                  go_roundw
                  case rel => exact ⟨_, rfl, HR, HK2.out, HB2⟩
                  case measure => rw [Road.iter_pos _ _ _ _ HK2.out, hkw]; have := HW.out; omega
            · have e2b : (bt a0 (wrap64 ((pos : Int) - 1)) == 46) = false := beq_eq_false_iff_ne.mpr e2
              replace e2 := Aside0.mk e2
              have HR := Aside0.mk (HM.out (fun g => g.2.1.elim e0.out e2.out))
              go_wp2
              go_roundw
              case rel => exact ⟨_, rfl, HR, HK2.out, HB2⟩
              case measure => rw [Road.iter_pos _ _ _ _ HK2.out, hkw]; have := HW.out; omega
        · have c1b : (c == 42) = false := beq_eq_false_iff_ne.mpr c1
          replace c1 := Aside0.mk c1
          by_cases c2 : c = 62
          · have c2b : (c == 62) = true := beq_iff_eq.mpr c2
            replace c2 := Aside0.mk c2
            by_cases e0 : (pos : Int) = 0
            · have e0b : ((pos : Int) == 0) = true := beq_iff_eq.mpr e0
              replace e0 := Aside0.mk e0
              by_cases f0 : wrap64 ((pos : Int) + 1) = (a0.size : Int)
              · have f0b : (wrap64 ((pos : Int) + 1) == (a0.size : Int)) = true := beq_iff_eq.mpr f0
                replace f0 := Aside0.mk f0
                have HF := HH.out (Or.inr c2.out) (Or.inl e0.out) (Or.inl f0.out)
                subst HF
                go_wp2
                go_ret
                exact ⟨rfl, HB2.out⟩
              · have f0b : (wrap64 ((pos : Int) + 1) == (a0.size : Int)) = false := beq_eq_false_iff_ne.mpr f0
                replace f0 := Aside0.mk f0
                have f1 := eq_true (HD4.out f0.out)
                by_cases f2 : bt a0 (wrap64 ((pos : Int) + 1)) = 46
                · have f2b : (bt a0 (wrap64 ((pos : Int) + 1)) == 46) = true := beq_iff_eq.mpr f2
                  replace f2 := Aside0.mk f2
                  have HF := HH.out (Or.inr c2.out) (Or.inl e0.out) (Or.inr f2.out)
                  subst HF
                  go_wp2
                  go_ret
                  exact ⟨rfl, HB2.out⟩
                · have f2b : (bt a0 (wrap64 ((pos : Int) + 1)) == 46) = false := beq_eq_false_iff_ne.mpr f2
                  replace f2 := Aside0.mk f2
                  have HR := Aside0.mk (HM.out (fun g => g.2.2.elim f0.out f2.out))
                  go_wp2
                  go_roundw
                  case rel => exact ⟨_, rfl, HR, HK2.out, HB2⟩
                  case measure => rw [Road.iter_pos _ _ _ _ HK2.out, hkw]; have := HW.out; omega
            · have e0b : ((pos : Int) == 0) = false := beq_eq_false_iff_ne.mpr e0
              replace e0 := Aside0.mk e0
              have e1 := eq_true (HD1.out e0.out)
              by_cases e2 : bt a0 (wrap64 ((pos : Int) - 1)) = 46
              · have e2b : (bt a0 (wrap64 ((pos : Int) - 1)) == 46) = true := beq_iff_eq.mpr e2
                replace e2 := Aside0.mk e2
                by_cases f0 : wrap64 ((pos : Int) + 1) = (a0.size : Int)
                · have f0b : (wrap64 ((pos : Int) + 1) == (a0.size : Int)) = true := beq_iff_eq.mpr f0
                  replace f0 := Aside0.mk f0
                  have HF := HH.out (Or.inr c2.out) (Or.inr e2.out) (Or.inl f0.out)
                  subst HF
                  go_wp2
                  go_ret
                  exact ⟨rfl, HB2.out⟩
                · have f0b : (wrap64 ((pos : Int) + 1) == (a0.size : Int)) = false := beq_eq_false_iff_ne.mpr f0
                  replace f0 := Aside0.mk f0
                  have f1 := eq_true (HD4.out f0.out)
                  by_cases f2 : bt a0 (wrap64 ((pos : Int) + 1)) = 46
                  · have f2b : (bt a0 (wrap64 ((pos : Int) + 1)) == 46) = true := beq_iff_eq.mpr f2
                    replace f2 := Aside0.mk f2
                    have HF := HH.out (Or.inr c2.out) (Or.inr e2.out) (Or.inr f2.out)
                    subst HF
                    go_wp2
                    go_ret
                    exact ⟨rfl, HB2.out⟩
                  · have f2b : (bt a0 (wrap64 ((pos : Int) + 1)) == 46) = false := beq_eq_false_iff_ne.mpr f2
                    replace f2 := Aside0.mk f2
                    have HR := Aside0.mk (HM.out (fun g => g.2.2.elim f0.out f2.out))
                    go_wp2
                    go_roundw
                    case rel => exact ⟨_, rfl, HR, HK2.out, HB2⟩
                    case measure => rw [Road.iter_pos _ _ _ _ HK2.out, hkw]; have := HW.out; omega
              · have e2b : (bt a0 (wrap64 ((pos : Int) - 1)) == 46) = false := beq_eq_false_iff_ne.mpr e2
                replace e2 := Aside0.mk e2
                have HR := Aside0.mk (HM.out (fun g => g.2.1.elim e0.out e2.out))
                go_wp2
                go_roundw
                case rel => exact ⟨_, rfl, HR, HK2.out, HB2⟩
                case measure => rw [Road.iter_pos _ _ _ _ HK2.out, hkw]; have := HW.out; omega
          · have c2b : (c == 62) = false := beq_eq_false_iff_ne.mpr c2
            replace c2 := Aside0.mk c2
            have HR := Aside0.mk (HM.out (fun g => g.1.elim c1.out c2.out))
            go_wp2
            go_roundw
            case rel => exact ⟨_, rfl, HR, HK2.out, HB2⟩
            case measure => rw [Road.iter_pos _ _ _ _ HK2.out, hkw]; have := HW.out; omega
      · have hnx : ∀ ty, (Instr.next (.pointer (some ⟨w.heap.size, 0, none⟩)) true ty).run Tryd.prog _ = _ := fun ty => Go.Lib.run_next_end_at _ _ a0 pos ty hk hp
        have HF := HR.out.done hp
        subst HF
        go_wp2
        go_ret
        exact ⟨rfl, HB.out⟩
  · exact absurd h (by simp)


/-! ### server_IsValidPublishSubject: function 50 -/
def server_IsValidPublishSubject.f (a0 : ByteArray) : Option (Bool) := (server_IsValidSubject.f a0).bind fun t128 => (if t128 = true then ((server_subjectIsLiteral.f a0).bind fun t129 => (some t129)) else (some false))
set_option maxHeartbeats 8000000 in
set_option maxRecDepth 100000 in
theorem server_IsValidPublishSubject.calls (a0 : ByteArray) (r : Bool) (w : World) (h : server_IsValidPublishSubject.f a0 = some r) :
    Calls Tryd.prog 50 #[.string a0] w fun e w' => e = .returned (.bool r) ∧ Below w.heap.size w w' := by
  have HB := Aside0.mk (Below.refl w.heap.size w)
  have H : ((server_IsValidSubject.f a0).bind fun t128 => (if t128 = true then ((server_subjectIsLiteral.f a0).bind fun t129 => (some t129)) else (some false))) = some r := h
  clear h
  replace H := Option.bind_eq_some_iff.mp H
  obtain ⟨t128, A20, H⟩ := H
  replace H : (if t128 = true then ((server_subjectIsLiteral.f a0).bind fun t129 => (some t129)) else (some false)) = some r := H
  have A2 := Aside0.mk A20
  clear A20
  by_cases c3 : t128 = true
  · subst c3
    have H1 : ((server_subjectIsLiteral.f a0).bind fun t129 => (some t129)) = some r := by rw [if_pos rfl] at H; exact H
    clear H
    have H := H1
    clear H1
    replace H := Option.bind_eq_some_iff.mp H
    obtain ⟨t129, A40, H⟩ := H
    replace H : (some t129) = some r := H
    have A4 := Aside0.mk A40
    clear A40
    obtain rfl := Option.some.inj H
    go_enter Tryd.func50, Tryd.ntmps50
    go_wp2_with (first | ((with_reducible refine gate_callee (f := 49) rfl ?_); refine goesL_ (some 4) rfl rfl Tryd.func49 (by kernel_rfl) rfl #[.string a0] rfl (by (try simp only [List.map_toArray, List.map_cons, List.map_nil]); first | done | rfl | (simp only [List.length_drop, List.length_take]; rfl)) ?_; (with_reducible refine (server_IsValidSubject.calls a0 true _ A2.out).mono ?_); rintro e w5 ⟨rfl, hb⟩; refine ⟨_, rfl, ?_⟩; have n0_ := Aside0.mk (below_step (by repeat (first | (with_reducible first | exact HB.out | apply below_alloc | apply pw_below_drewN | apply below_drew1) | exact HB.out)) hb); clear HB; have HB := n0_; clear n0_; (try clear hb); (try clear hb2); (try clear hk); (try clear hi)) | (go_at_call 59; (with_reducible refine (server_subjectIsLiteral.calls a0 t129 _ A4.out).mono ?_); rintro e w6 ⟨rfl, hb⟩; have n0_ := Aside0.mk (below_step (by repeat (first | (with_reducible first | exact HB.out | apply below_alloc | apply pw_below_drewN | apply below_drew1) | exact HB.out)) hb); clear HB; have HB := n0_; clear n0_; (try clear hb); (try clear hb2); (try clear hk); (try clear hi)))
    go_ret
    exact ⟨by first | rfl | (simp [errW_none, errW_some] <;> rfl) | (simp [*, errW_none, errW_some] <;> rfl) | (simp [errW_none, errW_some]; generalize ByteArray.toList _ = l_; cases l_ <;> rfl), by repeat (first | (with_reducible first | exact HB.out | apply below_alloc | apply pw_below_drewN | apply below_drew1) | exact HB.out)⟩
  · replace c3 := Bool.eq_false_iff.mpr c3
    subst c3
    have H1 : (some false) = some r := by rw [if_neg (show ¬ (false = true) by decide)] at H; exact H
    clear H
    have H := H1
    clear H1
    obtain rfl := Option.some.inj H
    go_enter Tryd.func50, Tryd.ntmps50
    go_wp2_with (first | ((with_reducible refine gate_callee (f := 49) rfl ?_); refine goesL_ (some 4) rfl rfl Tryd.func49 (by kernel_rfl) rfl #[.string a0] rfl (by (try simp only [List.map_toArray, List.map_cons, List.map_nil]); first | done | rfl | (simp only [List.length_drop, List.length_take]; rfl)) ?_; (with_reducible refine (server_IsValidSubject.calls a0 false _ A2.out).mono ?_); rintro e w7 ⟨rfl, hb⟩; refine ⟨_, rfl, ?_⟩; have n0_ := Aside0.mk (below_step (by repeat (first | (with_reducible first | exact HB.out | apply below_alloc | apply pw_below_drewN | apply below_drew1) | exact HB.out)) hb); clear HB; have HB := n0_; clear n0_; (try clear hb); (try clear hb2); (try clear hk); (try clear hi)))
    go_ret
    exact ⟨by first | rfl | (simp [errW_none, errW_some] <;> rfl) | (simp [*, errW_none, errW_some] <;> rfl) | (simp [errW_none, errW_some]; generalize ByteArray.toList _ = l_; cases l_ <;> rfl), by repeat (first | (with_reducible first | exact HB.out | apply below_alloc | apply pw_below_drewN | apply below_drew1) | exact HB.out)⟩

/-! ### impl_Publish: function 31 -/
def impl_Publish.f (a0 : ByteArray) : Option (Bool) := (server_IsValidPublishSubject.f a0).bind fun t130 => (some t130)
set_option maxHeartbeats 8000000 in
set_option maxRecDepth 100000 in
theorem impl_Publish.calls (a0 : ByteArray) (r : Bool) (w : World) (h : impl_Publish.f a0 = some r) :
    Calls Tryd.prog 31 #[.string a0] w fun e w' => e = .returned (.bool r) ∧ Below w.heap.size w w' := by
  have HB := Aside0.mk (Below.refl w.heap.size w)
  have H : ((server_IsValidPublishSubject.f a0).bind fun t130 => (some t130)) = some r := h
  clear h
  replace H := Option.bind_eq_some_iff.mp H
  obtain ⟨t130, A20, H⟩ := H
  replace H : (some t130) = some r := H
  have A2 := Aside0.mk A20
  clear A20
  obtain rfl := Option.some.inj H
  go_enter Tryd.func31, Tryd.ntmps31
  go_wp2_with (first | ((with_reducible refine gate_callee (f := 50) rfl ?_); refine goesL_ (some 4) rfl rfl Tryd.func50 (by kernel_rfl) rfl #[.string a0] rfl (by (try simp only [List.map_toArray, List.map_cons, List.map_nil]); first | done | rfl | (simp only [List.length_drop, List.length_take]; rfl)) ?_; (with_reducible refine (server_IsValidPublishSubject.calls a0 t130 _ A2.out).mono ?_); rintro e w3 ⟨rfl, hb⟩; refine ⟨_, rfl, ?_⟩; have n0_ := Aside0.mk (below_step (by repeat (first | (with_reducible first | exact HB.out | apply below_alloc | apply pw_below_drewN | apply below_drew1) | exact HB.out)) hb); clear HB; have HB := n0_; clear n0_; (try clear hb); (try clear hb2); (try clear hk); (try clear hi)))
  go_ret
  exact ⟨by first | rfl | (simp [errW_none, errW_some] <;> rfl) | (simp [*, errW_none, errW_some] <;> rfl) | (simp [errW_none, errW_some]; generalize ByteArray.toList _ = l_; cases l_ <;> rfl), by repeat (first | (with_reducible first | exact HB.out | apply below_alloc | apply pw_below_drewN | apply below_drew1) | exact HB.out)⟩

end Go.Proofs.YtmfblbjklmgncaaDoor.PFnTopicSubject
