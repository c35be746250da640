/- A size of at most nine digits, or none: the program's answer is the reference's, at all bytes. No condition. -/
import Derived.Test.YtaobajfdnidkfaaPFnParseSizex
import Derived.Test.YtaobajfdnidkfaaRoad
namespace Go.Proofs.Ytaobajfdnidkfaa.Pure
open Go.RowKit Go.Proofs.Ytaobajfdnidkfaa.PFnParseSize Go.Proofs.YtaobajfdnidkfaaW.PrintWords Go.Proofs.YtaobajfdnidkfaaW.PrintLast Go.Proofs.Ytaobajfdnidkfaa.Road
set_option linter.unusedVariables false
set_option linter.unusedSimpArgs false

-- SENT: A size of at most nine digits, or none: the program's answer is the reference's, at all bytes. No condition.
theorem size_loop (s : ByteArray) (hs : s.size ≤ 9) (d : Nat) : ∀ (i : Nat) (n : Int), i ≤ (bl s).length → (bl s).length - i = d → Dig n i → bl s ≠ [] →
    Ev (fun k => spec_Size.l0 k s n (i : Int)) (sizeGo n ((bytesOf s).drop i)) := by
  have hl := bl_len s
  induction d with
  | zero =>
    intro i n h1 h2 hn h0
    refine Ev.step (f := fun _ => some n) (fun k => ?_) ?_
    · simp only [spec_Size.l0]
      rw [if_neg (by omega), if_neg (by rw [toList_bl]; exact h0)]
    · rw [List.drop_of_length_le (by rw [bytesOf_length]; omega), sizeGo]
      exact Ev.now _
  | succ d ih =>
    intro i n h1 h2 hn h0
    have hlt : i < (bl s).length := by omega
    rw [sizeGo_at n _ i (by rw [bytesOf_length]; omega), rd_bytesOf]
    by_cases c1 : bt s (i : Int) < 48
    · rw [if_pos (.inl c1)]
      refine Ev.step (f := fun _ => some (-1)) (fun k => ?_) (Ev.now _)
      simp only [spec_Size.l0]
      rw [if_pos (by omega), if_pos (by omega), if_pos c1]
    · by_cases c2 : 57 < bt s (i : Int)
      · rw [if_pos (.inr c2)]
        refine Ev.step (f := fun _ => some (-1)) (fun k => ?_) (Ev.now _)
        simp only [spec_Size.l0]
        rw [if_pos (by omega), if_pos (by omega), if_neg c1, if_pos c2]
      · rw [if_neg (by omega)]
        have hn2 := hn.next (by omega) c1 c2
        have hle := hn.le
        have hle2 := hn2.le
        refine Ev.step (f := fun k => spec_Size.l0 k s (n * 10 + (bt s (i : Int) - 48)) ((i + 1 : Nat) : Int)) (fun k => ?_) (ih (i + 1) _ (by omega) (by omega) hn2 h0)
        simp only [spec_Size.l0]
        rw [if_pos (by omega), if_pos (by omega), if_neg c1, if_neg (by omega), if_neg (by omega), wrap_nat i (by omega)]
        have e : wrap64 (wrap64 (10 * n) + (bt s (i : Int) - 48) % 256) = n * 10 + (bt s (i : Int) - 48) := by
          have e1 : wrap64 (10 * n) = 10 * n := by unfold wrap64; omega
          have e2 : (bt s (i : Int) - 48) % 256 = bt s (i : Int) - 48 := by omega
          rw [e1, e2]
          unfold wrap64
          omega
        rw [e]

theorem specSize_ev (s : ByteArray) : Ev (fun k => spec_Size.f k s) (if s.size = 0 ∨ 9 < s.size then -1 else sizeGo 0 (bytesOf s)) := by
  have hl := bl_len s
  unfold spec_Size.f
  by_cases h0 : s.size = 0
  · rw [if_pos (.inl h0)]
    refine Ev.step (f := fun _ => some (-1)) (fun k => ?_) (Ev.now _)
    simp only [spec_Size.l0]
    rw [if_neg (by omega), if_pos (by rw [toList_bl]; exact List.eq_nil_of_length_eq_zero (by omega))]
  · by_cases h9 : 9 < s.size
    · rw [if_pos (.inr h9)]
      refine Ev.step (f := fun _ => some (-1)) (fun k => ?_) (Ev.now _)
      simp only [spec_Size.l0]
      rw [if_pos (by omega), if_pos (by omega)]
      by_cases c1 : bt s 0 < 48
      · rw [if_pos c1]
      · rw [if_neg c1]
        by_cases c2 : bt s 0 > 57
        · rw [if_pos c2]
        · rw [if_neg c2, if_pos (by omega)]
    · rw [if_neg (by omega)]
      have := size_loop s (by omega) (bl s).length 0 0 (by omega) (by omega) ⟨by omega, by simp, by omega⟩ (by intro h; have := congrArg List.length h; rw [List.length_nil] at this; omega)
      simpa using this

theorem FnParseSize : laws_FnParseSize.Pure := by
  intro l0 hm hsz hw
  apply Ev.rounds
  obtain ⟨s, rfl⟩ := nums_of_wf hw
  rw [bytesOf_length] at hsz
  unfold laws_FnParseSize.f
  simp only [bytesOf_length, strOfNums_bytesOf]
  by_cases h : (s.size : Int) > 2147483647
  · simp only [if_pos h]
    exact Ev.now _
  · simp only [if_neg h, laws_short.f, Option.bind_some, bytesOf_length]
    by_cases h2 : (s.size : Int) ≤ 200
    · simp only [decide_eq_true h2, if_true, List.length_nil, List.nil_append, if_pos (show 0 + s.size < 140737488355328 by omega)]
      have e1 : impl_ParseSize.f (bytesOf s) = some (if s.size = 0 ∨ 9 < s.size then -1 else sizeGo 0 (bytesOf s)) := by
        simp [impl_ParseSize.f, server_ParseSize.f, server_parseSize.f, bytesOf_length]
      have e2 : impl_ParseSize.f ([49, 50] : List Int) = some 12 := by
        simp [impl_ParseSize.f, server_ParseSize.f, server_parseSize.f, sizeGo]
      simp only [e1, e2, Option.bind_some]
      refine Ev.bind (specSize_ev s) ?_
      simp
      exact Ev.now _
    · simp only [decide_eq_false h2, Bool.false_eq_true, if_false]
      exact Ev.now _

end Go.Proofs.Ytaobajfdnidkfaa.Pure
