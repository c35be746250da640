/- The bytes of a message that closes, as the program lays them, are the reference's, at every status and text. No condition. -/
import Derived.Test.YtaobajfdnidkfaaPFnCloseMessagex
import Derived.Test.YtaobajfdnidkfaaRoad
namespace Go.Proofs.Ytaobajfdnidkfaa.Pure
open Go.RowKit Go.Proofs.Ytaobajfdnidkfaa.PFnCloseMessage Go.Proofs.YtaobajfdnidkfaaW.PrintWords Go.Proofs.YtaobajfdnidkfaaW.PrintLast Go.Proofs.Ytaobajfdnidkfaa.Road
set_option linter.unusedVariables false
set_option linter.unusedSimpArgs false

theorem clean_loop (s : ByteArray) (hs : s.size ≤ 2147483647) (d : Nat) : ∀ i : Nat, i ≤ (bl s).length → (bl s).length - i = d → Ev (fun k => laws_clean.l0 k s (i : Int)) (decide ((bl s).length ≤ 400) && ((bl s).drop i).all cleanC) := by
  have hl := bl_len s
  induction d with
  | zero =>
    intro i h1 h2
    refine Ev.step (f := fun k => laws_clean.j1 k s (i : Int) false) (fun k => ?_) (Ev.step (f := fun _ => some (decide ((s.size : Int) ≤ 400))) (fun k => ?_) ?_)
    · simp only [laws_clean.l0]
      rw [if_neg (by omega)]
    · simp [laws_clean.j1]
    · rw [List.drop_of_length_le (by omega)]
      have : decide ((s.size : Int) ≤ 400) = (decide ((bl s).length ≤ 400) && List.all ([] : Bs) cleanC) := by
        simp only [List.all_nil, Bool.and_true]
        exact decide_eq_decide.2 (by omega)
      rw [this]
      exact Ev.now _
  | succ d ih =>
    intro i h1 h2
    have hlt : i < (bl s).length := by omega
    have hb := bt_get s i hlt
    rw [drop_get _ _ hlt]
    by_cases h4 : i ≤ 400
    · refine Ev.step (f := fun k => laws_clean.j1 k s (i : Int) true) (fun k => ?_) ?_
      · simp only [laws_clean.l0]
        rw [if_pos (by omega), decide_eq_true (by omega)]
      · by_cases e1 : ((bl s)[i].toNat : Int) ≤ 32
        · refine Ev.step (f := fun _ => some false) (fun k => ?_) ?_
          · simp only [laws_clean.j1]
            rw [if_pos trivial, if_pos (by omega), if_pos (by omega), if_pos (by rw [hb]; exact e1)]
          · have : cleanC (bl s)[i] = false := cleanC_lo e1
            simp only [List.all_cons, this, Bool.false_and, Bool.and_false]
            exact Ev.now _
        · by_cases e2 : (bl s)[i] = 127
          · refine Ev.step (f := fun _ => some false) (fun k => ?_) ?_
            · simp only [laws_clean.j1]
              rw [if_pos trivial, if_pos (by omega), if_pos (by omega), if_neg (by rw [hb]; exact e1), if_pos (by rw [hb, e2]; rfl)]
            · have : cleanC (bl s)[i] = false := cleanC_del e2
              simp only [List.all_cons, this, Bool.false_and, Bool.and_false]
              exact Ev.now _
          · refine Ev.step (f := fun k => laws_clean.l0 k s ((i + 1 : Nat) : Int)) (fun k => ?_) ?_
            · simp only [laws_clean.j1]
              rw [if_pos trivial, if_pos (by omega), if_pos (by omega), if_neg (by rw [hb]; exact e1), if_neg (by rw [hb]; intro h; exact e2 ((u8_eq _ 127 (by omega)).1 h)), wrap_nat i (by omega)]
            · have : cleanC (bl s)[i] = true := cleanC_ok e1 e2
              simp only [List.all_cons, this, Bool.true_and]
              exact ih (i + 1) (by omega) (by omega)
    · refine Ev.step (f := fun k => laws_clean.j1 k s (i : Int) false) (fun k => ?_) (Ev.step (f := fun _ => some (decide ((s.size : Int) ≤ 400))) (fun k => ?_) ?_)
      · simp only [laws_clean.l0]
        rw [if_pos (by omega), decide_eq_false (by omega)]
      · simp [laws_clean.j1]
      · rw [decide_eq_false (by omega), decide_eq_false (p := (bl s).length ≤ 400) (by omega)]
        exact Ev.now _

theorem clean_ev (s : ByteArray) (hs : s.size ≤ 2147483647) : Ev (fun k => laws_clean.f k s) (cleanB (bl s)) := by
  have := clean_loop s hs (bl s).length 0 (by omega) (by omega)
  simpa [laws_clean.f, cleanB] using this


theorem same_loop (a : List Int) (hl : a.length ≤ 2147483648) (d : Nat) : ∀ i : Nat, i ≤ a.length → a.length - i = d → Ev (fun k => laws_sameBytes.l0 k a a (i : Int)) true := by
  induction d with
  | zero =>
    intro i h1 h2
    refine Ev.step (f := fun _ => some true) (fun k => ?_) (Ev.now _)
    simp only [laws_sameBytes.l0]
    rw [if_neg (by omega)]
  | succ d ih =>
    intro i h1 h2
    refine Ev.step (f := fun k => laws_sameBytes.l0 k a a ((i + 1 : Nat) : Int)) (fun k => ?_) (ih (i + 1) (by omega) (by omega))
    simp only [laws_sameBytes.l0]
    rw [if_pos (by omega), if_pos (by omega), if_pos (by omega), if_pos trivial, wrap_nat i (by omega)]
theorem same_ev (a : List Int) (hl : a.length ≤ 2147483648) : Ev (fun k => laws_sameBytes.f k a a) true := by
  have := same_loop a hl a.length 0 (by omega) (by omega)
  unfold laws_sameBytes.f
  simpa using this

-- SENT: The bytes of a message that closes, as the program lays them, are the reference's, at every status and text. No condition.
theorem FnCloseMessage : laws_FnCloseMessage.Pure := by
  intro a0 s hw hsz
  apply Ev.rounds
  have hout : Ev (fun k => laws_FnCloseMessage.j0 k a0 s true) true := Ev.step (f := fun _ => some true) (fun k => by simp [laws_FnCloseMessage.j0]) (Ev.now _)
  unfold laws_FnCloseMessage.f
  by_cases h : (s.size : Int) > 2147483647
  · simp only [if_pos h]
    exact Ev.now _
  · simp only [if_neg h]
    by_cases h1 : a0 < 0
    · simp only [if_pos h1]
      exact hout
    · by_cases h2 : a0 > 65535
      · simp only [if_neg h1, if_pos h2]
        exact hout
      · by_cases h3 : (s.size : Int) > 120
        · simp only [if_neg h1, if_neg h2, if_pos h3]
          exact hout
        · simp only [if_neg h1, if_neg h2, if_neg h3]
          refine Ev.bind (clean_ev s (by omega)) ?_
          cases cleanB (bl s) with
          | false => exact hout
          | true =>
            refine Ev.step (g := fun k => laws_FnCloseMessage.j0 k a0 s false) (fun k => by simp only [laws_FnCloseMessage.j0, Bool.false_eq_true, if_false]; rfl) ?_
            have e1 : impl_CloseMessage.f a0 s = some (a0 / 256 :: a0 % 256 :: bytesOf s) := by
              unfold impl_CloseMessage.f server_CloseMessage.f server_wsCreateCloseMessage.f
              rw [if_pos ⟨by omega, by omega, by omega⟩]
              rfl
            have e2 : spec_CloseBytes.f a0 s = some (a0 / 256 :: a0 % 256 :: bytesOf s) := by
              unfold spec_CloseBytes.f
              have : a0 / 256 % 256 = a0 / 256 := by omega
              simp only [Option.bind_some, this]
              rw [if_pos (by simp; omega)]
              rfl
            rw [e1, e2]
            simp only [Option.bind_some]
            refine Ev.bind (same_ev _ ?_) (Ev.now _)
            have := bytesOf_length s
            simp [this]
            omega

end Go.Proofs.Ytaobajfdnidkfaa.Pure
