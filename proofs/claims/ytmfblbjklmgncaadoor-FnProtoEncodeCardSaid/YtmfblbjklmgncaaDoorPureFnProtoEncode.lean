/- FnProtoEncode: whatever the number and the bytes (their number within the form's reach), the law returns true. -/
import Derived.Test.YtmfblbjklmgncaaDoorPFnProtoEncodex
import Derived.Test.YtmfblbjklmgncaaDoorRoad
namespace Go.Proofs.YtmfblbjklmgncaaDoor.Pure
open Go.RowKit Go.Proofs.YtmfblbjklmgncaaDoor.PFnProtoEncode Go.Proofs.YtmfblbjklmgncaaDoorW.PrintWords Go.Proofs.YtmfblbjklmgncaaDoorW.PrintLast Go.Proofs.YtmfblbjklmgncaaDoor.Road
set_option linter.unusedVariables false
set_option linter.unusedSimpArgs false

theorem same_loop (a : List Int) (hl : a.length ≤ 2147483648) (d : Nat) : ∀ i : Nat, i ≤ a.length → a.length - i = d → Ev (fun k => laws_sameBytes.l0 k a a (i : Int)) true := by
  induction d with
  | zero =>
    intro i h1 h2
    refine Ev.step (f := fun _ => some true) (fun k => ?_) (Ev.now _)
    simp only [laws_sameBytes.l0]
    rw [if_neg (by omega)]
  | succ d ih =>
    intro i h1 h2
    refine Ev.step (f := fun k => laws_sameBytes.l0 k a a ((i + 1 : Nat) : Int)) (fun k => ?_) (ih (i + 1) (by omega) (by omega))
    simp only [laws_sameBytes.l0]
    rw [if_pos (by omega), if_pos (by omega), if_pos (by omega), if_pos trivial, wrap_nat i (by omega)]
theorem same_ev (a : List Int) (hl : a.length ≤ 2147483648) : Ev (fun k => laws_sameBytes.f k a a) true := by
  have := same_loop a hl a.length 0 (by omega) (by omega)
  unfold laws_sameBytes.f
  simpa using this

open ProtoW in
theorem encV_bytes (k : Nat) : ∀ n : Nat, n < 128 ^ (k + 1) → ∀ x ∈ encV k n, 0 ≤ x ∧ x < 256 := by
  induction k with
  | zero => intro n hn x hx; simp [encV] at hx; subst hx; simp at hn; omega
  | succ k ih =>
    intro n hn x hx
    unfold encV at hx
    split at hx
    · simp at hx; subst hx; omega
    · rcases List.mem_cons.1 hx with hx | hx
      · subst hx; omega
      · exact ih (n / 128) (by rw [Nat.pow_succ] at hn; exact Nat.div_lt_of_lt_mul (by rw [Nat.mul_comm]; exact hn)) x hx
open ProtoW in
theorem VarintBytes_loop (k : Nat) : ∀ (n : Nat) (acc : List Int), n < 128 ^ (k + 1) → n < 18446744073709551616 → acc.length + k < 100 → Ev (fun f => spec_VarintBytes.l0 f (n : Int) acc) (acc ++ encV k n) := by
  have hlast : ∀ (n : Nat) (acc : List Int), n < 128 → acc.length < 100 → Ev (fun f => spec_VarintBytes.l0 f (n : Int) acc) (acc ++ [(n : Int)]) := by
    intro n acc h ha
    refine Ev.step (f := fun _ => some (acc ++ [(n : Int)])) (fun f => ?_) (Ev.now _)
    simp only [spec_VarintBytes.l0]
    rw [if_neg (by omega), if_pos (by omega), Int.emod_eq_of_lt (by omega) (by omega)]
  induction k with
  | zero => intro n acc hn _ ha; exact hlast n acc (by simpa using hn) (by omega)
  | succ k ih =>
    intro n acc hn h64 ha
    unfold encV
    by_cases h : n < 128
    · rw [if_pos h]; exact hlast n acc h (by omega)
    · rw [if_neg h]
      have e1 : IntKind.u64.wrap (Int.tdiv (n : Int) 128) = ((n / 128 : Nat) : Int) := by
        rw [Int.tdiv_eq_ediv_of_nonneg (by omega), IntKind.wrap_u64]; omega
      have e2 : (IntKind.u64.wrap (Int.tmod (n : Int) 128 + 128)) % 256 = ((n % 128 + 128 : Nat) : Int) := by
        rw [Int.tmod_eq_emod_of_nonneg (by omega), IntKind.wrap_u64]; omega
      refine Ev.step (f := fun f => spec_VarintBytes.l0 f ((n / 128 : Nat) : Int) (acc ++ [((n % 128 + 128 : Nat) : Int)])) (fun f => ?_) ?_
      · simp only [spec_VarintBytes.l0]
        rw [if_pos (by omega), if_pos (by omega), e1, e2]
      · have := ih (n / 128) (acc ++ [((n % 128 + 128 : Nat) : Int)]) (by rw [Nat.pow_succ] at hn; exact Nat.div_lt_of_lt_mul (by rw [Nat.mul_comm]; exact hn)) (by omega) (by simp; omega)
        simpa using this
theorem VarintBytes_ev (n : Nat) (hn : n < 18446744073709551616) : Ev (fun f => spec_VarintBytes.f f (n : Int)) (ProtoW.encV 9 n) := by
  have := VarintBytes_loop 9 n [] (Nat.lt_trans hn (by decide)) hn (by simp)
  simpa [spec_VarintBytes.f] using this
theorem awakeProto_eq : laws_awakeProto.f = some true := by
  have e : impl_ProtoVarint.f [150, 1] = some (150, 2, 0) := by
    unfold impl_ProtoVarint.f
    rw [if_pos (by decide)]
    rfl
  unfold laws_awakeProto.f
  rw [e]
  rfl
theorem u64_of_wf {x : Int} (h : (Lit.int .u64 x).wf = true) : ∃ n : Nat, x = (n : Int) ∧ n < 18446744073709551616 := by
  simp [Lit.wf, IntKind.min, IntKind.max, IntKind.signed, IntKind.bits] at h
  exact ⟨x.toNat, by omega, by omega⟩
theorem u8_of_wf {l : List Int} (h : ∀ x ∈ l, (Lit.int .u8 x).wf = true) : ∀ x ∈ l, 0 ≤ x ∧ x < 256 := by
  intro x hx
  have := h x hx
  simp [Lit.wf, IntKind.min, IntKind.max, IntKind.signed, IntKind.bits] at this
  omega

-- SENT: FnProtoEncode: whatever the number and the bytes (their number within the form's reach), the law returns true.
theorem FnProtoEncode : laws_FnProtoEncode.Pure := by
  intro a0 l1 hw hm hsz hwl
  apply Ev.rounds
  obtain ⟨n, rfl, hn⟩ := u64_of_wf hw
  have hlb := u8_of_wf hwl
  unfold laws_FnProtoEncode.f
  by_cases h1 : (l1.length : Int) > 2147483647
  · simp only [if_pos h1]
    exact Ev.now _
  simp only [if_neg h1]
  by_cases h2 : (l1.length : Int) > 100
  · simp only [if_pos h2, awakeProto_eq, Option.bind_some]
    exact Ev.now _
  simp only [if_neg h2]
  have hlen := ProtoW.encV_len 9 n
  have eE : impl_ProtoEncode.f (n : Int) = some (ProtoW.encV 9 n) := by
    unfold impl_ProtoEncode.f
    rw [if_pos ⟨by omega, by omega⟩]
    rfl
  have eV : impl_ProtoVarint.f (ProtoW.encV 9 n ++ l1) = some ((n : Int), ((ProtoW.encV 9 n).length : Int), 0) := by
    unfold impl_ProtoVarint.f
    rw [if_pos (fun x hx => by
      rcases List.mem_append.1 hx with hx | hx
      · exact encV_bytes 9 n (Nat.lt_trans hn (by decide)) x hx
      · exact hlb x hx), ProtoW.scanV_enc 9 n 0 0 l1 rfl (by simpa using hn)]
    simp
  rw [eE]
  simp only [Option.bind_some, List.nil_append, List.length_nil]
  simp only [show 0 + (ProtoW.encV 9 n).length < 140737488355328 by omega, show (ProtoW.encV 9 n).length + l1.length < 140737488355328 by omega, if_true, eV, Option.bind_some]
  refine Ev.bind (VarintBytes_ev n hn) ?_
  refine Ev.bind (same_ev (ProtoW.encV 9 n) (by omega)) ?_
  simp
  exact Ev.now _

end Go.Proofs.YtmfblbjklmgncaaDoor.Pure
