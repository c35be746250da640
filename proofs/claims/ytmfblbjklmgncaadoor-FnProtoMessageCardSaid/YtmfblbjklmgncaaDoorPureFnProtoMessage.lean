/- FnProtoMessage: whatever the fields and the cut (their number within the form's reach), the law returns true. -/
import Derived.Test.YtmfblbjklmgncaaDoorPFnProtoMessager
import Derived.Test.YtmfblbjklmgncaaDoorRoad
namespace Go.Proofs.YtmfblbjklmgncaaDoor.Pure
open Go.RowKit Go.Proofs.YtmfblbjklmgncaaDoor.PFnProtoMessage Go.Proofs.YtmfblbjklmgncaaDoorW.PrintWords Go.Proofs.YtmfblbjklmgncaaDoorW.PrintLast Go.Proofs.YtmfblbjklmgncaaDoor.Road
set_option linter.unusedVariables false
set_option linter.unusedSimpArgs false

open ProtoW in
theorem encV_bytes (k : Nat) : ∀ n : Nat, n < 128 ^ (k + 1) → ∀ x ∈ encV k n, 0 ≤ x ∧ x < 256 := by
  induction k with
  | zero => intro n hn x hx; simp [encV] at hx; subst hx; simp at hn; omega
  | succ k ih =>
    intro n hn x hx
    unfold encV at hx
    split at hx
    · simp at hx; subst hx; omega
    · rcases List.mem_cons.1 hx with hx | hx
      · subst hx; omega
      · exact ih (n / 128) (by rw [Nat.pow_succ] at hn; exact Nat.div_lt_of_lt_mul (by rw [Nat.mul_comm]; exact hn)) x hx
open ProtoW in
theorem VarintBytes_loop (k : Nat) : ∀ (n : Nat) (acc : List Int), n < 128 ^ (k + 1) → n < 18446744073709551616 → acc.length + k < 100 → Ev (fun f => spec_VarintBytes.l0 f (n : Int) acc) (acc ++ encV k n) := by
  have hlast : ∀ (n : Nat) (acc : List Int), n < 128 → acc.length < 100 → Ev (fun f => spec_VarintBytes.l0 f (n : Int) acc) (acc ++ [(n : Int)]) := by
    intro n acc h ha
    refine Ev.step (f := fun _ => some (acc ++ [(n : Int)])) (fun f => ?_) (Ev.now _)
    simp only [spec_VarintBytes.l0]
    rw [if_neg (by omega), if_pos (by omega), Int.emod_eq_of_lt (by omega) (by omega)]
  induction k with
  | zero => intro n acc hn _ ha; exact hlast n acc (by simpa using hn) (by omega)
  | succ k ih =>
    intro n acc hn h64 ha
    unfold encV
    by_cases h : n < 128
    · rw [if_pos h]; exact hlast n acc h (by omega)
    · rw [if_neg h]
      have e1 : IntKind.u64.wrap (Int.tdiv (n : Int) 128) = ((n / 128 : Nat) : Int) := by
        rw [Int.tdiv_eq_ediv_of_nonneg (by omega), IntKind.wrap_u64]; omega
      have e2 : (IntKind.u64.wrap (Int.tmod (n : Int) 128 + 128)) % 256 = ((n % 128 + 128 : Nat) : Int) := by
        rw [Int.tmod_eq_emod_of_nonneg (by omega), IntKind.wrap_u64]; omega
      refine Ev.step (f := fun f => spec_VarintBytes.l0 f ((n / 128 : Nat) : Int) (acc ++ [((n % 128 + 128 : Nat) : Int)])) (fun f => ?_) ?_
      · simp only [spec_VarintBytes.l0]
        rw [if_pos (by omega), if_pos (by omega), e1, e2]
      · have := ih (n / 128) (acc ++ [((n % 128 + 128 : Nat) : Int)]) (by rw [Nat.pow_succ] at hn; exact Nat.div_lt_of_lt_mul (by rw [Nat.mul_comm]; exact hn)) (by omega) (by simp; omega)
        simpa using this
theorem VarintBytes_ev (n : Nat) (hn : n < 18446744073709551616) : Ev (fun f => spec_VarintBytes.f f (n : Int)) (ProtoW.encV 9 n) := by
  have := VarintBytes_loop 9 n [] (Nat.lt_trans hn (by decide)) hn (by simp)
  simpa [spec_VarintBytes.f] using this
theorem awakeProto_eq : laws_awakeProto.f = some true := by
  have e : impl_ProtoVarint.f [150, 1] = some (150, 2, 0) := by
    unfold impl_ProtoVarint.f
    rw [if_pos (by decide)]
    rfl
  unfold laws_awakeProto.f
  rw [e]
  rfl
theorem u64_of_wf {x : Int} (h : (Lit.int .u64 x).wf = true) : ∃ n : Nat, x = (n : Int) ∧ n < 18446744073709551616 := by
  simp [Lit.wf, IntKind.min, IntKind.max, IntKind.signed, IntKind.bits] at h
  exact ⟨x.toNat, by omega, by omega⟩
theorem u8_of_wf {l : List Int} (h : ∀ x ∈ l, (Lit.int .u8 x).wf = true) : ∀ x ∈ l, 0 ≤ x ∧ x < 256 := by
  intro x hx
  have := h x hx
  simp [Lit.wf, IntKind.min, IntKind.max, IntKind.signed, IntKind.bits] at this
  omega

-- SENT: FnProtoMessage: whatever the fields and the cut (their number within the form's reach), the law returns true.
open ProtoW ProtoBytesW ProtoFieldW in
/-- The lowest bytes of a number. -/
def lil (n : Int) (m : Nat) : List Int := (List.range m).map fun i => shr .u64 n ((8 * i : Nat) : Int) % 256
theorem lil_length (n : Int) (m : Nat) : (lil n m).length = m := by simp [lil]
theorem lil_succ (n : Int) (m : Nat) : lil n (m + 1) = lil n m ++ [shr .u64 n ((8 * m : Nat) : Int) % 256] := by simp [lil, List.range_succ]
theorem lil_bytes (n : Int) (m : Nat) : ∀ x ∈ lil n m, 0 ≤ x ∧ x < 256 := by
  intro x hx
  simp only [lil, List.mem_map] at hx
  obtain ⟨i, _, rfl⟩ := hx
  exact ⟨Int.emod_nonneg _ (by decide), Int.emod_lt_of_pos _ (by decide)⟩
theorem w8 (i : Nat) (h : i ≤ 8) : IntKind.u64.wrap (8 * IntKind.u64.wrap (i : Int)) = ((8 * i : Nat) : Int) := by
  rw [IntKind.wrap_u64, IntKind.wrap_u64]
  omega
theorem little_loop (n : Int) (m : Nat) (hm : m ≤ 8) (d : Nat) : ∀ i, i + d = m → Ev (fun k => spec_little.l0 k n (m : Int) (lil n i) (i : Int)) (lil n m) := by
  induction d with
  | zero =>
    intro i hi
    have e : i = m := by omega
    subst e
    refine Ev.step (f := fun _ => some (lil n i)) (fun k => ?_) (Ev.now _)
    simp only [spec_little.l0]
    rw [if_neg (by omega)]
  | succ d ih =>
    intro i hi
    refine Ev.step (f := fun k => spec_little.l0 k n (m : Int) (lil n (i + 1)) ((i + 1 : Nat) : Int)) (fun k => ?_) (ih (i + 1) (by omega))
    simp only [spec_little.l0]
    have hl := lil_length n i
    rw [if_pos (by omega), w8 i (by omega), if_pos (by omega), if_pos (by omega), wrap_nat i (by omega), lil_succ]
theorem little_ev (n : Int) (m : Nat) (hm : m ≤ 8) : Ev (fun k => spec_little.f k n (m : Int)) (lil n m) := by
  have := little_loop n m hm m 0 (by omega)
  simpa [spec_little.f, lil] using this
/-- A field as it is written. -/
def valL (kind n : Nat) (b : List Int) : List Int := if kind = 0 then ProtoW.encV 9 n else if kind = 1 then lil (n : Int) 8 else if kind = 2 then ProtoW.encV 9 b.length ++ b else lil (n : Int) 4
def fbL (num kind n : Nat) (b : List Int) : List Int := ProtoW.encV 9 (num * 8 + kind) ++ valL kind n b
def KindOk (kind : Nat) : Prop := kind = 0 ∨ kind = 1 ∨ kind = 2 ∨ kind = 5
theorem valL_len (kind n : Nat) (b : List Int) (hb : b.length ≤ 200) : 0 < (valL kind n b).length ∧ (valL kind n b).length ≤ 300 := by
  have h1 := ProtoW.encV_len 9 n
  have h2 := ProtoW.encV_len 9 b.length
  unfold valL
  split
  · omega
  · split
    · rw [lil_length]; omega
    · split
      · rw [List.length_append]; omega
      · rw [lil_length]; omega
theorem fbL_len (num kind n : Nat) (b : List Int) (hb : b.length ≤ 200) : 0 < (fbL num kind n b).length ∧ (fbL num kind n b).length ≤ 400 := by
  have h1 := ProtoW.encV_len 9 (num * 8 + kind)
  have h2 := valL_len kind n b hb
  unfold fbL
  rw [List.length_append]
  omega
theorem wtag (num kind : Nat) (h : num < 536870912) (hk : kind < 8) : IntKind.u64.wrap ((IntKind.u64.wrap ((IntKind.u64.wrap (num : Int)) * 8)) + (IntKind.u64.wrap (kind : Int))) = ((num * 8 + kind : Nat) : Int) := by
  simp only [IntKind.wrap_u64]
  omega
theorem wlen (n : Nat) (h : n ≤ 200) : IntKind.u64.wrap (n : Int) = (n : Int) := by
  rw [IntKind.wrap_u64]
  omega
theorem FieldBytes_ev (num kind n : Nat) (b : List Int) (h1 : num < 536870912) (hk : KindOk kind) (hn : n < 18446744073709551616) (hb : b.length ≤ 200) :
    Ev (fun k => spec_FieldBytes.f k (num : Int) (kind : Int) (n : Int) b) (fbL num kind n b) := by
  have hk8 : kind < 8 := by unfold KindOk at hk; omega
  have l1 := ProtoW.encV_len 9 (num * 8 + kind)
  have l2 := ProtoW.encV_len 9 n
  have l3 := ProtoW.encV_len 9 b.length
  unfold spec_FieldBytes.f
  simp only [wtag num kind h1 hk8, wlen _ hb]
  refine Ev.bind (VarintBytes_ev (num * 8 + kind) (by omega)) ?_
  unfold fbL valL
  rcases hk with rfl | rfl | rfl | rfl
  · simp only [show (((0 : Nat) : Int) = 0) from rfl, if_true]
    refine Ev.bind (VarintBytes_ev n hn) ?_
    rw [if_pos (by omega)]
    exact Ev.now _
  · simp only [show ¬ (((1 : Nat) : Int) = 0) by decide, show (((1 : Nat) : Int) = 1) from rfl, if_true, if_false, show ¬ (1 : Nat) = 0 by decide]
    refine Ev.bind (little_ev n 8 (by decide)) ?_
    rw [if_pos (by rw [lil_length]; omega)]
    exact Ev.now _
  · simp only [show ¬ (((2 : Nat) : Int) = 0) by decide, show ¬ (((2 : Nat) : Int) = 1) by decide, show (((2 : Nat) : Int) = 2) from rfl, if_true, if_false, show ¬ (2 : Nat) = 0 by decide, show ¬ (2 : Nat) = 1 by decide]
    refine Ev.bind (VarintBytes_ev b.length (by omega)) ?_
    rw [if_pos (by omega), Option.bind_some, if_pos (by rw [List.length_append]; omega), List.append_assoc]
    exact Ev.now _
  · simp only [show ¬ (((5 : Nat) : Int) = 0) by decide, show ¬ (((5 : Nat) : Int) = 1) by decide, show ¬ (((5 : Nat) : Int) = 2) by decide, if_false, show ¬ (5 : Nat) = 0 by decide, show ¬ (5 : Nat) = 1 by decide, show ¬ (5 : Nat) = 2 by decide]
    refine Ev.bind (little_ev n 4 (by decide)) ?_
    rw [if_pos (by rw [lil_length]; omega)]
    exact Ev.now _
theorem fbL_bytes (num kind n : Nat) (b : List Int) (h1 : num < 536870912) (hk : kind < 8) (hn : n < 18446744073709551616) (hbl : b.length ≤ 200) (hb : ∀ x ∈ b, 0 ≤ x ∧ x < 256) : ∀ x ∈ fbL num kind n b, 0 ≤ x ∧ x < 256 := by
  have big : (18446744073709551616 : Nat) ≤ 128 ^ (9 + 1) := by decide
  intro x hx
  unfold fbL at hx
  rcases List.mem_append.1 hx with hx | hx
  · exact encV_bytes 9 _ (Nat.lt_of_lt_of_le (show num * 8 + kind < 18446744073709551616 by omega) big) x hx
  · unfold valL at hx
    split at hx
    · exact encV_bytes 9 _ (Nat.lt_of_lt_of_le hn big) x hx
    · split at hx
      · exact lil_bytes _ _ x hx
      · split at hx
        · rcases List.mem_append.1 hx with hx | hx
          · exact encV_bytes 9 _ (Nat.lt_of_lt_of_le (show b.length < 18446744073709551616 by omega) big) x hx
          · exact hb x hx
        · exact lil_bytes _ _ x hx
open ProtoW ProtoBytesW ProtoFieldW in
theorem tagV_enc (num kind : Nat) (h0 : 1 ≤ num) (h1 : num < 536870912) (hk : kind < 8) (more : List Int) : tagV (encV 9 (num * 8 + kind) ++ more) = some ((num : Int), (kind : Int), ((encV 9 (num * 8 + kind)).length : Int)) := by
  have hs := scanV_enc 9 (num * 8 + kind) 0 0 more rfl (by simp only [Nat.mul_zero, Nat.pow_zero, Nat.mul_one]; exact Nat.lt_trans (show num * 8 + kind < 18446744073709551615 by omega) (by decide))
  have e : (((0 + (num * 8 + kind) * 2 ^ (7 * 0) : Nat) : Int)) = ((num * 8 + kind : Nat) : Int) := by simp
  rw [e] at hs
  unfold tagV
  rw [hs]
  simp only
  rw [if_neg (by omega), if_neg (by omega)]
  refine congrArg some (Prod.ext ?_ (Prod.ext ?_ ?_)) <;> simp only <;> omega
open ProtoW ProtoBytesW ProtoFieldW in
theorem bytesV_enc (b more : List Int) (hb : b.length ≤ 200) : bytesV (encV 9 b.length ++ (b ++ more)) = some ((b.length : Int), ((encV 9 b.length).length : Int)) := by
  have hs := scanV_enc 9 b.length 0 0 (b ++ more) rfl (by simp only [Nat.mul_zero, Nat.pow_zero, Nat.mul_one]; exact Nat.lt_of_le_of_lt hb (by decide))
  have e : (((0 + b.length * 2 ^ (7 * 0) : Nat) : Int)) = (b.length : Int) := by simp
  rw [e] at hs
  unfold bytesV
  rw [hs]
  simp only [List.length_append]
  rw [if_neg (by omega)]
  refine congrArg some (Prod.ext rfl ?_)
  simp only
  omega
open ProtoW ProtoBytesW ProtoFieldW in
theorem valV0 (l : List Int) : valV ((0 : Nat) : Int) l = (scanV 0 0 l).map (·.2) := rfl
open ProtoW ProtoBytesW ProtoFieldW in
theorem valV1 (l : List Int) : valV ((1 : Nat) : Int) l = if l.length < 8 then none else some 8 := rfl
open ProtoW ProtoBytesW ProtoFieldW in
theorem valV2 (l : List Int) : valV ((2 : Nat) : Int) l = (bytesV l).map fun r => r.2 + r.1 := rfl
open ProtoW ProtoBytesW ProtoFieldW in
theorem valV5 (l : List Int) : valV ((5 : Nat) : Int) l = if l.length < 4 then none else some 4 := rfl
theorem valL0 (n : Nat) (b : List Int) : valL 0 n b = ProtoW.encV 9 n := rfl
theorem valL1 (n : Nat) (b : List Int) : valL 1 n b = lil (n : Int) 8 := rfl
theorem valL2 (n : Nat) (b : List Int) : valL 2 n b = ProtoW.encV 9 b.length ++ b := rfl
theorem valL5 (n : Nat) (b : List Int) : valL 5 n b = lil (n : Int) 4 := rfl
open ProtoW ProtoBytesW ProtoFieldW in
theorem valV_enc (kind n : Nat) (b more : List Int) (hk : KindOk kind) (hn : n < 18446744073709551616) (hb : b.length ≤ 200) : valV (kind : Int) (valL kind n b ++ more) = some ((valL kind n b).length : Int) := by
  rcases hk with rfl | rfl | rfl | rfl
  · have hs := scanV_enc 9 n 0 0 more rfl (by simp only [Nat.mul_zero, Nat.pow_zero, Nat.mul_one]; exact Nat.lt_of_lt_of_le hn (by decide))
    rw [valV0, valL0, hs]
    simp
  · rw [valV1, valL1, if_neg (by rw [List.length_append, lil_length]; omega), lil_length]
    rfl
  · rw [valV2, valL2, List.append_assoc, bytesV_enc b more hb]
    simp
  · rw [valV5, valL5, if_neg (by rw [List.length_append, lil_length]; omega), lil_length]
    rfl
open ProtoW ProtoBytesW ProtoFieldW in
theorem valV_cut (kind n : Nat) (b : List Int) (m : Nat) (hk : KindOk kind) (hb : b.length ≤ 200) (hm : m < (valL kind n b).length) : valV (kind : Int) ((valL kind n b).take m) = none := by
  rcases hk with rfl | rfl | rfl | rfl
  · rw [valL0] at hm ⊢
    rw [valV0, scanV_cut 9 n 0 0 m (by omega) hm]
    rfl
  · rw [valL1] at hm ⊢
    rw [lil_length] at hm
    rw [valV1, if_pos (by rw [List.length_take, lil_length]; omega)]
  · rw [valL2] at hm ⊢
    rw [List.length_append] at hm
    rw [valV2]
    unfold bytesV
    rcases Nat.lt_or_ge m (encV 9 b.length).length with h | h
    · rw [List.take_append_of_le_length (by omega), scanV_cut 9 b.length 0 0 m (by omega) h]
      rfl
    · have hs := scanV_enc 9 b.length 0 0 (b.take (m - (encV 9 b.length).length)) rfl (by simp only [Nat.mul_zero, Nat.pow_zero, Nat.mul_one]; exact Nat.lt_of_le_of_lt hb (by decide))
      have e : (((0 + b.length * 2 ^ (7 * 0) : Nat) : Int)) = (b.length : Int) := by simp
      rw [e] at hs
      rw [List.take_append, List.take_of_length_le h, hs]
      simp only [List.length_append, List.length_take]
      rw [if_pos (by omega)]
      rfl
  · rw [valL5] at hm ⊢
    rw [lil_length] at hm
    rw [valV5, if_pos (by rw [List.length_take, lil_length]; omega)]
theorem ty_of (kind : Nat) (hk : KindOk kind) : ((kind : Int) == 0 || (kind : Int) == 1 || (kind : Int) == 2 || (kind : Int) == 5) = true := by
  rcases hk with rfl | rfl | rfl | rfl <;> rfl
open ProtoW ProtoBytesW ProtoFieldW in
/-- A field is found, whatever stands behind. -/
theorem field_found (num kind n : Nat) (b more : List Int) (h0 : 1 ≤ num) (h1 : num < 536870912) (hk : KindOk kind) (hn : n < 18446744073709551616) (hbl : b.length ≤ 200) (hb : ∀ x ∈ b, 0 ≤ x ∧ x < 256) (hmb : ∀ x ∈ more, 0 ≤ x ∧ x < 256) (hml : more.length ≤ 5000) :
    impl_ProtoField.f (fbL num kind n b ++ more) = some ((num : Int), (kind : Int), ((fbL num kind n b).length : Int), 0) := by
  have hk8 : kind < 8 := by unfold KindOk at hk; omega
  have hl := fbL_len num kind n b hbl
  have ht := tagV_enc num kind h0 h1 hk8 (valL kind n b ++ more)
  unfold impl_ProtoField.f
  have hf : fieldV (fbL num kind n b ++ more) = some ((num : Int), (kind : Int), ((fbL num kind n b).length : Int)) := by
    unfold fieldV fbL
    rw [List.append_assoc, ht, Option.bind_some]
    simp only [Int.toNat_natCast, List.drop_left]
    rw [valV_enc kind n b more hk hn hbl]
    simp
  have hy : tyOkB (fbL num kind n b ++ more) = true := by
    unfold tyOkB fbL
    rw [List.append_assoc, ht]
    exact ty_of kind hk
  rw [if_pos ⟨fun x hx => by
    rcases List.mem_append.1 hx with hx | hx
    · exact fbL_bytes num kind n b h1 hk8 hn hbl hb x hx
    · exact hmb x hx, by rw [List.length_append]; omega, hy⟩, hf]
open ProtoW ProtoBytesW ProtoFieldW in
/-- .. cut, it is none. -/
theorem field_cut (num kind n : Nat) (b : List Int) (m : Nat) (h0 : 1 ≤ num) (h1 : num < 536870912) (hk : KindOk kind) (hn : n < 18446744073709551616) (hbl : b.length ≤ 200) (hb : ∀ x ∈ b, 0 ≤ x ∧ x < 256) (hm : m < (fbL num kind n b).length) :
    impl_ProtoField.f ((fbL num kind n b).take m) = some (0, 0, 0, 1) := by
  have hk8 : kind < 8 := by unfold KindOk at hk; omega
  have hl := fbL_len num kind n b hbl
  unfold impl_ProtoField.f
  have hby : ∀ x ∈ (fbL num kind n b).take m, 0 ≤ x ∧ x < 256 := fun x hx => fbL_bytes num kind n b h1 hk8 hn hbl hb x (List.mem_of_mem_take hx)
  have hsz : ((fbL num kind n b).take m).length < 140737488355328 := by rw [List.length_take]; omega
  rcases Nat.lt_or_ge m (encV 9 (num * 8 + kind)).length with h | h
  · have ht : tagV ((fbL num kind n b).take m) = none := by
      unfold tagV fbL
      rw [List.take_append_of_le_length (by omega), scanV_cut 9 _ 0 0 m (by omega) h]
    have hy : tyOkB ((fbL num kind n b).take m) = true := by unfold tyOkB; rw [ht]
    have hf : fieldV ((fbL num kind n b).take m) = none := by unfold fieldV; rw [ht]; rfl
    rw [if_pos ⟨hby, hsz, hy⟩, hf]
  · have e : (fbL num kind n b).take m = encV 9 (num * 8 + kind) ++ (valL kind n b).take (m - (encV 9 (num * 8 + kind)).length) := by
      unfold fbL
      rw [List.take_append, List.take_of_length_le h]
    have hm' : m - (encV 9 (num * 8 + kind)).length < (valL kind n b).length := by unfold fbL at hm; rw [List.length_append] at hm; omega
    have ht := tagV_enc num kind h0 h1 hk8 ((valL kind n b).take (m - (encV 9 (num * 8 + kind)).length))
    rw [← e] at ht
    have hy : tyOkB ((fbL num kind n b).take m) = true := by unfold tyOkB; rw [ht]; exact ty_of kind hk
    have hf : fieldV ((fbL num kind n b).take m) = none := by
      unfold fieldV
      rw [ht, Option.bind_some]
      simp only [Int.toNat_natCast]
      rw [e, List.drop_left, valV_cut kind n b _ hk hbl hm']
      rfl
    rw [if_pos ⟨hby, hsz, hy⟩, hf]
theorem rd35 (l : List S35) (i : Nat) (h : i < l.length) : rd_T35 l (i : Int) = l[i] := by simp [rd_T35, h]
theorem Right_eq (a b c : Int) (l : List Int) : spec_Right.f a b c l = some (decide (1 ≤ a ∧ a ≤ 536870911 ∧ (b = 0 ∨ b = 1 ∨ b = 2 ∨ b = 5))) := by
  unfold spec_Right.f
  by_cases h1 : a ≥ 1
  · rw [if_pos h1]
    by_cases h2 : a ≤ 536870911
    · rw [if_pos h2]
      by_cases h3 : b = 0
      · rw [if_pos h3]; simp [h3, h1, h2]
      · rw [if_neg h3]
        by_cases h4 : b = 1
        · rw [if_pos h4]; simp [h4, h1, h2]
        · rw [if_neg h4]
          by_cases h5 : b = 2
          · rw [if_pos h5]; simp [h5, h1, h2]
          · rw [if_neg h5]
            by_cases h6 : b = 5
            · simp [h6, h2]; omega
            · simp [h3, h4, h5, h6]
    · rw [if_neg h2]; simp [h2]
  · rw [if_neg h1]; simp; omega
def Good (p : S35) : Prop := 1 ≤ p.f0 ∧ p.f0 ≤ 536870911 ∧ (p.f1 = 0 ∨ p.f1 = 1 ∨ p.f1 = 2 ∨ p.f1 = 5) ∧ p.f3.length ≤ 200
def Okp (p : S35) : Prop := (0 ≤ p.f2 ∧ p.f2 < 18446744073709551616) ∧ ∀ x ∈ p.f3, 0 ≤ x ∧ x < 256
def fbp (p : S35) : List Int := fbL p.f0.toNat p.f1.toNat p.f2.toNat p.f3
theorem fbp_len (p : S35) (h : Good p) : 0 < (fbp p).length ∧ (fbp p).length ≤ 400 := fbL_len _ _ _ _ h.2.2.2
theorem fbp_bytes (p : S35) (h : Good p) (ho : Okp p) : ∀ x ∈ fbp p, 0 ≤ x ∧ x < 256 := by
  obtain ⟨h0, h1, hk, hl⟩ := h
  obtain ⟨⟨h2, h3⟩, hb⟩ := ho
  exact fbL_bytes _ _ _ _ (by omega) (by omega) (by omega) hl hb
theorem FB_ev (p : S35) (h : Good p) (ho : Okp p) : Ev (fun k => spec_FieldBytes.f k p.f0 p.f1 p.f2 p.f3) (fbp p) := by
  obtain ⟨h0, h1, hk, hl⟩ := h
  obtain ⟨⟨h2, h3⟩, hb⟩ := ho
  have := FieldBytes_ev p.f0.toNat p.f1.toNat p.f2.toNat p.f3 (by omega) (by unfold KindOk; omega) (by omega) hl
  rwa [Int.toNat_of_nonneg (by omega), Int.toNat_of_nonneg (by omega), Int.toNat_of_nonneg h2] at this
theorem found_p (p : S35) (more : List Int) (h : Good p) (ho : Okp p) (hmb : ∀ x ∈ more, 0 ≤ x ∧ x < 256) (hml : more.length ≤ 5000) : impl_ProtoField.f (fbp p ++ more) = some (p.f0, p.f1, ((fbp p).length : Int), 0) := by
  obtain ⟨h0, h1, hk, hl⟩ := h
  obtain ⟨⟨h2, h3⟩, hb⟩ := ho
  have := field_found p.f0.toNat p.f1.toNat p.f2.toNat p.f3 more (by omega) (by omega) (by unfold KindOk; omega) (by omega) hl hb hmb hml
  rwa [Int.toNat_of_nonneg (by omega), Int.toNat_of_nonneg (by omega)] at this
theorem cut_p (p : S35) (m : Nat) (h : Good p) (ho : Okp p) (hm : m < (fbp p).length) : impl_ProtoField.f ((fbp p).take m) = some (0, 0, 0, 1) := by
  obtain ⟨h0, h1, hk, hl⟩ := h
  obtain ⟨⟨h2, h3⟩, hb⟩ := ho
  exact field_cut p.f0.toNat p.f1.toNat p.f2.toNat p.f3 m (by omega) (by omega) (by unfold KindOk; omega) (by omega) hl hb hm
theorem flat_len (l : List S35) (h : ∀ p ∈ l, Good p) : (l.flatMap fbp).length ≤ 400 * l.length := by
  induction l with
  | nil => simp
  | cons p l ih =>
    have := ih (fun q hq => h q (by simp [hq]))
    have := (fbp_len p (h p (by simp))).2
    rw [List.flatMap_cons, List.length_append, List.length_cons]
    omega
theorem flat_bytes (l : List S35) (h : ∀ p ∈ l, Good p) (ho : ∀ p ∈ l, Okp p) : ∀ x ∈ l.flatMap fbp, 0 ≤ x ∧ x < 256 := by
  intro x hx
  obtain ⟨p, hp, hxp⟩ := List.mem_flatMap.1 hx
  exact fbp_bytes p (h p hp) (ho p hp) x hxp
theorem take_flat (l : List S35) (j : Nat) (h : j < l.length) : (l.take (j + 1)).flatMap fbp = (l.take j).flatMap fbp ++ fbp l[j] := by
  rw [List.take_succ_eq_append_getElem h, List.flatMap_append]
  simp
theorem all_flat (l : List S35) (j : Nat) (h : j < l.length) : l.flatMap fbp = (l.take j).flatMap fbp ++ (fbp l[j] ++ (l.drop (j + 1)).flatMap fbp) := by
  conv => lhs; rw [← List.take_append_drop j l, List.flatMap_append, List.drop_eq_getElem_cons h, List.flatMap_cons]
theorem zz_loop (l : List S35) (hl : l.length ≤ 2147483647) (d : Nat) : ∀ i : Nat, i + d = l.length → ∃ t, Ev (fun k => laws_zzFits7.l0 k l (l.length : Int) (i : Int)) t := by
  induction d with
  | zero =>
    intro i hi
    refine ⟨true, Ev.step (f := fun _ => some true) (fun k => ?_) (Ev.now _)⟩
    simp only [laws_zzFits7.l0]
    rw [if_neg (by omega)]
  | succ d ih =>
    intro i hi
    by_cases h : ((rd_T35 l (i : Int)).f3.length : Int) > 2147483647
    · refine ⟨false, Ev.step (f := fun _ => some false) (fun k => ?_) (Ev.now _)⟩
      simp only [laws_zzFits7.l0, laws_zzFits8.f]
      rw [if_pos (by omega), if_pos (by omega), if_pos (by omega), if_pos h]
      rfl
    · obtain ⟨t, ht⟩ := ih (i + 1) (by omega)
      refine ⟨t, Ev.step (f := fun k => laws_zzFits7.l0 k l (l.length : Int) ((i + 1 : Nat) : Int)) (fun k => ?_) ht⟩
      simp only [laws_zzFits7.l0, laws_zzFits8.f]
      rw [if_pos (by omega), if_pos (by omega), if_pos (by omega), if_neg h, Option.bind_some, if_pos rfl, wrap_nat i (by omega)]
/-- The second loop: field by field. -/
theorem loop1 (l : List S35) (a1 : Int) (hl : l.length ≤ 10) (hg : ∀ p ∈ l, Good p) (ho : ∀ p ∈ l, Okp p) (d : Nat) : ∀ j : Nat, j + d = l.length → Ev (fun k => laws_FnProtoMessage.l1 k l a1 (l.flatMap fbp) ((((l.take j).flatMap fbp).length : Nat) : Int) (j : Int)) true := by
  have hall := flat_len l hg
  induction d with
  | zero =>
    intro j hj
    have e : l.take j = l := List.take_of_length_le (by omega)
    rw [e]
    refine Ev.step (f := fun _ => some true) (fun k => ?_) (Ev.now _)
    simp only [laws_FnProtoMessage.l1]
    rw [if_neg (by omega), awakeProto_eq]
    simp
  | succ d ih =>
    intro j hj
    have hjl : j < l.length := by omega
    have hp : l[j] ∈ l := List.getElem_mem hjl
    have hfl := fbp_len l[j] (hg _ hp)
    have hsplit := all_flat l j hjl
    have hnext := ih (j + 1) (by omega)
    rw [take_flat l j hjl, List.length_append] at hnext
    have hdl := flat_len (l.drop (j + 1)) (fun p hp => hg p (List.mem_of_mem_drop hp))
    have hdb := flat_bytes (l.drop (j + 1)) (fun p hp => hg p (List.mem_of_mem_drop hp)) (fun p hp => ho p (List.mem_of_mem_drop hp))
    rw [List.length_drop] at hdl
    obtain ⟨A, hA⟩ : ∃ A, A = (l.take j).flatMap fbp := ⟨_, rfl⟩
    obtain ⟨R, hR⟩ : ∃ R, R = (l.drop (j + 1)).flatMap fbp := ⟨_, rfl⟩
    obtain ⟨all, hal⟩ : ∃ all, all = l.flatMap fbp := ⟨_, rfl⟩
    rw [← hR] at hdl hdb hsplit
    rw [← hA] at hnext hsplit ⊢
    rw [← hal] at hnext hsplit hall ⊢
    have hlen : all.length = A.length + ((fbp l[j]).length + R.length) := by rw [hsplit, List.length_append, List.length_append]
    have hdrop : all.drop A.length = fbp l[j] ++ R := by rw [hsplit, List.drop_left]
    have hfound := found_p l[j] R (hg _ hp) (ho _ hp) hdb (by omega)
    have hwx : wrap64 ((A.length : Int) + ((fbp l[j]).length : Int)) = ((A.length + (fbp l[j]).length : Nat) : Int) := w64 _ _ (by omega) (by omega) (by omega)
    have hwj : wrap64 ((j : Int) + 1) = ((j + 1 : Nat) : Int) := wrap_nat j (by omega)
    have HWX := Aside0.mk hwx
    have HWJ := Aside0.mk hwj
    clear hwx hwj
    have hj4 : Ev (fun k => laws_FnProtoMessage.j4 k l a1 all (A.length : Int) (j : Int) ((fbp l[j]).length : Int) false) true := by
      refine Ev.step (f := fun k => laws_FnProtoMessage.l1 k l a1 all ((A.length + (fbp l[j]).length : Nat) : Int) ((j + 1 : Nat) : Int)) (fun k => ?_) hnext
      simp only [laws_FnProtoMessage.j4, Bool.false_eq_true, if_false]
      rw [HWX.out, HWJ.out]
    have hj3 : Ev (fun k => laws_FnProtoMessage.j3 k l a1 all (A.length : Int) (j : Int) ((fbp l[j]).length : Int) false) true := by
      by_cases h1 : a1 > 0
      · by_cases h2 : a1 < ((fbp l[j]).length : Int)
        · by_cases h3 : j + 1 = l.length
          · obtain ⟨c, rfl⟩ := Int.eq_ofNat_of_zero_le (show 0 ≤ a1 by omega)
            have hRn : R = [] := by rw [hR, List.drop_of_length_le (by omega)]; rfl
            have hcut := cut_p l[j] ((fbp l[j]).length - c) (hg _ hp) (ho _ hp) (by omega)
            rw [hRn, List.append_nil] at hsplit
            rw [hRn, List.length_nil] at hlen
            have hwn : wrap64 ((l.length : Int) - 1) = (j : Int) := w64 _ _ (by omega) (by omega) (by omega)
            have hwc : wrap64 ((all.length : Int) - (c : Int)) = ((A.length + ((fbp l[j]).length - c) : Nat) : Int) := w64 _ _ (by omega) (by omega) (by omega)
            have htk : (all.take (A.length + ((fbp l[j]).length - c))).drop A.length = (fbp l[j]).take ((fbp l[j]).length - c) := by
              rw [hsplit, List.take_append, List.take_of_length_le (by omega), List.drop_left, Nat.add_sub_cancel_left]
            refine Ev.step (f := fun k => laws_FnProtoMessage.j4 k l (c : Int) all (A.length : Int) (j : Int) ((fbp l[j]).length : Int) true) (fun k => ?_) ?_
            · simp only [laws_FnProtoMessage.j3, Bool.false_eq_true, if_false]
              rw [if_pos h1, if_pos h2, hwn, show ((j : Int) == (j : Int)) = true from beq_self_eq_true _]
            · refine Ev.step (f := fun k => laws_FnProtoMessage.l1 k l (c : Int) all ((A.length + (fbp l[j]).length : Nat) : Int) ((j + 1 : Nat) : Int)) (fun k => ?_) hnext
              simp only [laws_FnProtoMessage.j4, if_true, Option.bind_some]
              have HWC := Aside0.mk hwc
              clear hwc hwn
              rw [HWC.out]
              simp only [Int.toNat_natCast]
              rw [htk, if_pos (by omega), if_pos (by omega), if_pos (by omega)]
              rw [if_pos (by rw [List.length_take]; simp only [List.length_nil]; omega), List.nil_append, hcut, Option.bind_some]
              simp only []
              rw [if_neg (by decide), HWX.out, HWJ.out]
          · have hwn : wrap64 ((l.length : Int) - 1) = ((l.length - 1 : Nat) : Int) := w64 _ _ (by omega) (by omega) (by omega)
            refine Ev.step (f := fun k => laws_FnProtoMessage.j4 k l a1 all (A.length : Int) (j : Int) ((fbp l[j]).length : Int) false) (fun k => ?_) hj4
            simp only [laws_FnProtoMessage.j3, Bool.false_eq_true, if_false]
            rw [if_pos h1, if_pos h2, hwn, show ((j : Int) == ((l.length - 1 : Nat) : Int)) = false from beq_eq_false_iff_ne.2 (by clear hwn; omega)]
        · refine Ev.step (f := fun k => laws_FnProtoMessage.j4 k l a1 all (A.length : Int) (j : Int) ((fbp l[j]).length : Int) false) (fun k => ?_) hj4
          simp only [laws_FnProtoMessage.j3, Bool.false_eq_true, if_false]
          rw [if_pos h1, if_neg h2]
      · refine Ev.step (f := fun k => laws_FnProtoMessage.j4 k l a1 all (A.length : Int) (j : Int) ((fbp l[j]).length : Int) false) (fun k => ?_) hj4
        simp only [laws_FnProtoMessage.j3, Bool.false_eq_true, if_false]
        rw [if_neg h1]
    refine Ev.step (f := fun k => (spec_FieldBytes.f k l[j].f0 l[j].f1 l[j].f2 l[j].f3).bind fun t185 => laws_FnProtoMessage.j3 k l a1 all (A.length : Int) (j : Int) ((fbp l[j]).length : Int) (((fbp l[j]).length : Int) != (t185.length : Int))) (fun k => ?_) ?_
    · simp only [laws_FnProtoMessage.l1, Option.bind_some, Int.toNat_natCast]
      rw [rd35 l j hjl, hdrop, if_pos (by omega), if_pos (by omega), if_pos (by omega), if_pos (by rw [List.length_append]; simp only [List.length_nil]; omega), List.nil_append, hfound, Option.bind_some]
      simp only [if_true]
      rw [if_pos (by omega)]
    · refine Ev.bind (FB_ev l[j] (hg _ hp) (ho _ hp)) ?_
      rw [show (((fbp l[j]).length : Int) != ((fbp l[j]).length : Int)) = false from bne_self_eq_false _]
      exact hj3
/-- The first loop: all fields, one behind the other. -/
theorem loop0 (l : List S35) (a1 : Int) (hl : l.length ≤ 10) (ho : ∀ p ∈ l, Okp p) (d : Nat) : ∀ i : Nat, i + d = l.length → (∀ p ∈ l.take i, Good p) → Ev (fun k => laws_FnProtoMessage.l0 k l a1 ((l.take i).flatMap fbp) 0 (i : Int)) true := by
  induction d with
  | zero =>
    intro i hi hg
    have e : l.take i = l := List.take_of_length_le (by omega)
    rw [e] at hg ⊢
    have := loop1 l a1 hl hg ho l.length 0 (by omega)
    refine Ev.step (f := fun k => laws_FnProtoMessage.l1 k l a1 (l.flatMap fbp) 0 0) (fun k => ?_) (by simpa using this)
    simp only [laws_FnProtoMessage.l0]
    rw [if_neg (by omega)]
  | succ d ih =>
    intro i hi hg
    have hil : i < l.length := by omega
    have hp : l[i] ∈ l := List.getElem_mem hil
    have hlen := flat_len (l.take i) hg
    rw [List.length_take] at hlen
    have awake : Ev (fun k => laws_FnProtoMessage.j1 k l a1 ((l.take i).flatMap fbp) 0 (i : Int) true) true := by
      refine Ev.step (f := fun _ => some true) (fun k => ?_) (Ev.now _)
      simp only [laws_FnProtoMessage.j1, if_true, awakeProto_eq]
      rfl
    by_cases h1 : 1 ≤ l[i].f0 ∧ l[i].f0 ≤ 536870911 ∧ (l[i].f1 = 0 ∨ l[i].f1 = 1 ∨ l[i].f1 = 2 ∨ l[i].f1 = 5)
    · refine Ev.step (f := fun k => laws_FnProtoMessage.j1 k l a1 ((l.take i).flatMap fbp) 0 (i : Int) (decide ((l[i].f3.length : Int) > 200))) (fun k => ?_) ?_
      · simp only [laws_FnProtoMessage.l0]
        rw [rd35 l i hil, if_pos (by omega), if_pos (by omega), Right_eq, decide_eq_true h1, Option.bind_some, if_pos rfl]
      · by_cases h2 : (l[i].f3.length : Int) > 200
        · rw [decide_eq_true h2]
          exact awake
        · rw [decide_eq_false h2]
          have hgood : Good l[i] := ⟨h1.1, h1.2.1, h1.2.2, by omega⟩
          have hfl := fbp_len _ hgood
          refine Ev.step (f := fun k => (spec_FieldBytes.f k l[i].f0 l[i].f1 l[i].f2 l[i].f3).bind fun t161 => if ((l.take i).flatMap fbp).length + t161.length < 140737488355328 then laws_FnProtoMessage.l0 k l a1 ((l.take i).flatMap fbp ++ t161) 0 ((i + 1 : Nat) : Int) else none) (fun k => ?_) ?_
          · simp only [laws_FnProtoMessage.j1, Bool.false_eq_true, if_false]
            rw [rd35 l i hil, if_pos (by omega), if_pos (by omega), wrap_nat i (by omega)]
          · refine Ev.bind (FB_ev _ hgood (ho _ hp)) ?_
            simp only [if_pos (show ((l.take i).flatMap fbp).length + (fbp l[i]).length < 140737488355328 by omega), ← take_flat l i hil]
            refine ih (i + 1) (by omega) (fun p hpp => ?_)
            rw [List.take_succ_eq_append_getElem hil] at hpp
            rcases List.mem_append.1 hpp with hpp | hpp
            · exact hg p hpp
            · rw [List.mem_singleton.1 hpp]; exact hgood
    · refine Ev.step (f := fun k => laws_FnProtoMessage.j1 k l a1 ((l.take i).flatMap fbp) 0 (i : Int) true) (fun k => ?_) awake
      simp only [laws_FnProtoMessage.l0]
      rw [rd35 l i hil, if_pos (by omega), if_pos (by omega), Right_eq, decide_eq_false h1, Option.bind_some]
      simp
theorem FnProtoMessage : laws_FnProtoMessage.Pure := by
  intro l0 a1 hm hok _
  apply Ev.rounds
  unfold laws_FnProtoMessage.f
  have ho : ∀ p ∈ l0, Okp p := fun p hp => by
    obtain ⟨_, _, h2, _, h3⟩ := hok p hp
    obtain ⟨n, e, hn⟩ := u64_of_wf h2
    exact ⟨by omega, u8_of_wf h3⟩
  have hz : ∃ t, Ev (fun k => laws_zzFits7.f k l0) t := by
    unfold laws_zzFits7.f
    by_cases h : (l0.length : Int) > 2147483647
    · exact ⟨false, by simp only [if_pos h]; exact Ev.now _⟩
    · simp only [if_neg h]
      exact zz_loop l0 (by omega) l0.length 0 (by omega)
  obtain ⟨t, ht⟩ := hz
  refine Ev.bind ht ?_
  cases t
  · simp
    exact Ev.now _
  · simp only [if_true]
    by_cases h : (l0.length : Int) > 10
    · simp only [if_pos h, awakeProto_eq, Option.bind_some]
      exact Ev.now _
    · simp only [if_neg h]
      exact loop0 l0 a1 (by omega) ho l0.length 0 (by omega) (by simp)

end Go.Proofs.YtmfblbjklmgncaaDoor.Pure
