/- WALKS: a field's tag, its value, a whole field. -/
import Derived.Test.YtmfblbjklmgncaaDoorProg
import Derived.Below
import Derived.Deep.Draws
import Derived.Deep.AppendLies
import Derived.Maps.AppendAt
import Derived.OwnWalk
import Derived.Laws.BytesArg
import Derived.Laws.MakeOwn
import Derived.Laws.OwnMore
import Derived.Deep.OwnRows
import Derived.Tactics
import Derived.Lib.ConvBytes
import Derived.Laws.Slices
import Derived.WalkKit
import Derived.KernelRfl
import Derived.RowKit3
import Derived.Deep.LoopGhost
import Derived.Deep.QuietTactic
import Derived.BigQuiet
import Derived.WideLaws
import Derived.Deep.DeepCutAuto
import Derived.Deep.CutBlock
import Derived.Deep.RegionHeld3
import Derived.Laws.Rows
import Derived.Lib.AppendStr
import Derived.ArgAppend
import Derived.Laws.IdiomCopy
import Derived.OrdersHeld
import Derived.Laws.BitsLemmas
import Derived.RowKit
import Derived.Test.YtmfblbjklmgncaaDoorProtoW
import Derived.Test.YtmfblbjklmgncaaDoorProtoBytesW
import Derived.Test.YtmfblbjklmgncaaDoorRoad
import Derived.Test.YtmfblbjklmgncaaDoorWWords
import Derived.Test.YtmfblbjklmgncaaDoorWLast
import Derived.Test.YtmfblbjklmgncaaDoorWTab
import Derived.Test.YtmfblbjklmgncaaDoorWFour
import Derived.Test.YtmfblbjklmgncaaDoorWQPut
import Derived.Test.YtmfblbjklmgncaaDoorWApart
import Derived.Test.YtmfblbjklmgncaaDoorWArr
import Derived.Test.YtmfblbjklmgncaaDoorWZeros
import Derived.Test.YtmfblbjklmgncaaDoorWFoot
import Derived.Test.YtmfblbjklmgncaaDoorWKept
import Derived.Test.YtmfblbjklmgncaaDoorWShare
import Derived.Test.YtmfblbjklmgncaaDoorWN
import Derived.Test.YtmfblbjklmgncaaDoorWFootNe
import Derived.Test.YtmfblbjklmgncaaDoorWAt
import Derived.Test.YtmfblbjklmgncaaDoorWEqStruct
import Derived.Test.YtmfblbjklmgncaaDoorWRepsOne
import Derived.Test.YtmfblbjklmgncaaDoorWInv
import Derived.Test.YtmfblbjklmgncaaDoorWInvWords
import Derived.Test.YtmfblbjklmgncaaDoorWGuard
import Derived.Test.YtmfblbjklmgncaaDoorWNEv
import Derived.Test.YtmfblbjklmgncaaDoorWMore
import Derived.StillTailTactics
import Derived.OneCell
import Derived.RegionTactic
import Derived.Lib.EndianBits
namespace Go.Proofs.YtmfblbjklmgncaaDoor.ProtoFieldW
open Go.RowKit Go.Proofs.YtmfblbjklmgncaaDoorW.PrintWords Go.Proofs.YtmfblbjklmgncaaDoorW.PrintLast Go.Proofs.YtmfblbjklmgncaaDoorW.PrintMore
attribute [local go_sem] max2_int min2_int max_two min_two max_three min_three max_four min_four   -- for this text's walks alone
set_option linter.unusedVariables false
set_option linter.unusedSimpArgs false



open ProtoW ProtoErrW ProtoBytesW
/-- The three errors' variables hold something. -/
structure ErrLaid3 (w : World) : Prop where
  e : ErrLaid w
  c : ∃ t v, w.cell? ⟨2, 0, none⟩ = some (.iface t v)
theorem ErrLaid3.below {w0 w : World} (h : ErrLaid3 w0) (hb : Below w0.heap.size w0 w) : ErrLaid3 w := by
  obtain ⟨he, ⟨t, v, hc⟩⟩ := h
  refine ⟨he.below hb, t, v, ?_⟩
  have hlt : 2 < w0.heap.size := by
    by_cases hk : 2 < w0.heap.size
    · exact hk
    · simp [World.cell?, Array.getElem?_eq_none (Nat.le_of_not_lt hk)] at hc
  simpa only [World.cell?, hb.block 2 hlt] using hc
theorem results_tmp4 {fn : Func} {t u v x : Tmp} (h : fn.results = #[.tmp t, .tmp u, .tmp v, .tmp x]) (tmps : Array Value) (P : Program) (w : World) :
    (results fn tmps).run P w = .ok (.tuple #[tmps.getD t undef, tmps.getD u undef, tmps.getD v undef, tmps.getD x undef]) w := by
  simp [results, h]
theorem le7_ (i : Nat) (h : i ≤ 8) : 7 * (i + 1) ≤ 63 := by omega
theorem le64_ : 2 ^ 63 ≤ 18446744073709551616 := by decide
theorem lt64_ (i n : Nat) (h : i ≤ 8) (hp : n < 2 ^ (7 * (i + 1))) : n < 18446744073709551616 :=
  Nat.lt_of_lt_of_le hp (Nat.le_trans (Nat.pow_le_pow_right Nat.zero_lt_two (le7_ i h)) le64_)
theorem step_lt (i acc b : Nat) (h : acc < 2 ^ (7 * i)) (hb : b ≤ 127) : acc + b * 2 ^ (7 * i) < 2 ^ (7 * (i + 1)) := by
  rw [pow7]
  have := Nat.mul_le_mul_right (2 ^ (7 * i)) hb
  omega
theorem scanV_lt : ∀ (l : List Int) (i acc : Nat) (v n : Int), i ≤ 9 → acc < 2 ^ (7 * i) → (∀ x ∈ l, 0 ≤ x ∧ x < 256) → scanV i acc l = some (v, n) → v < 18446744073709551616 := by
  intro l
  induction l with
  | nil => intro i acc v n _ _ _ h; simp [scanV] at h
  | cons b l ih =>
    intro i acc v n hi ha hb h
    have hb0 := hb b (by simp)
    have ht := step_lt i acc
    unfold scanV at h
    split at h
    · rename_i h9
      subst h9
      split at h
      · simp only [Option.some.injEq, Prod.mk.injEq] at h
        obtain ⟨rfl, _⟩ := h
        have ha' : acc < 9223372036854775808 := ha
        have : b.toNat ≤ 1 := by omega
        have := Nat.mul_le_mul_right (2 ^ 63) this
        rw [show (2 : Nat) ^ 63 = 9223372036854775808 from rfl] at this ⊢
        omega
      · simp at h
    · rename_i h9
      split at h
      · simp only [Option.some.injEq, Prod.mk.injEq] at h
        obtain ⟨rfl, _⟩ := h
        have := lt64_ i _ (by omega) (ht b.toNat ha (by omega))
        exact Int.ofNat_lt.2 this
      · exact ih (i + 1) _ v n (by omega) (ht (b.toNat - 128) ha (by omega)) (fun x hx => hb x (by simp [hx])) h
/-- A field's number, its type, how many bytes both took. -/
def tagV (l : List Int) : Option (Int × Int × Int) :=
  match scanV 0 0 l with
  | none => none
  | some (v, n) => if v / 8 > 2147483647 then none else if v / 8 < 1 then none else some (v / 8, v % 8, n)
set_option maxHeartbeats 8000000 in
set_option maxRecDepth 100000 in
theorem tag_none (A : Option Addr) (c : Nat) (l : List Int) (w : World) (h : Row8 w A c l) (hs : tagV l = none) (hE : ErrLaid3 w) :
    Calls Tryd.prog 60 #[.slice A l.length c] w fun e w' => ∃ t u, e = .returned (.tuple #[.int .i64 0, .int .i64 0, .int .i64 0, .iface t u]) ∧ Below w.heap.size w w' := by
  unfold tagV at hs
  cases hv : scanV 0 0 l with
  | none =>
    have H := Aside0.mk h
    have HV := Aside0.mk hv
    have HE := Aside0.mk hE
    clear h hv hs hE
    go_enter Tryd.func60, Tryd.ntmps60
    go_wp2_with fail
    refine (scan_none A c l w H.out.cells H.out.bytes HV.out HE.out.e).mono ?_
    rintro e w1 ⟨t, u, rfl, hb1⟩
    have HB1 := Aside0.mk hb1
    clear hb1
    go_wp2_with fail
    try simp only [Exit.inBlock, Exit.then]
    refine bodyPost_ret (results_tmp4 rfl _ _ _) rfl ?_
    exact ⟨t, u, rfl, HB1.out⟩
  | some p =>
    obtain ⟨v, n⟩ := p
    rw [hv] at hs
    simp only at hs
    have hz := scanV_size l 0 0 v n (by decide) hv
    have hlt := scanV_lt l 0 0 v n (by decide) (by decide) h.bytes hv
    by_cases h1 : v / 8 > 2147483647
    · have d1 : decide (2147483647 < v / 8) = true := decide_eq_true h1
      have H := Aside0.mk h
      have HV := Aside0.mk hv
      have HE := Aside0.mk hE
      clear h hv hs hE hz hlt h1
      go_enter Tryd.func60, Tryd.ntmps60
      go_wp2_with fail
      refine (scan_some A c l v n w H.out HV.out).mono ?_
      rintro e w1 ⟨rfl, hb1⟩
      have HB1 := Aside0.mk hb1
      obtain ⟨t, u, hg⟩ := (HE.out.below hb1).c
      clear hb1
      go_wp2_with fail
      all_goals go_quiet (fail)
      all_goals go_wp2_with fail
      all_goals try simp only [Exit.inBlock, Exit.then]
      all_goals refine bodyPost_ret (results_tmp4 rfl _ _ _) rfl ?_
      all_goals exact ⟨t, u, rfl, pw_below_drewN HB1.out _⟩
    · rw [if_neg h1] at hs
      have h2 : v / 8 < 1 := by
        by_cases h2 : v / 8 < 1
        · exact h2
        · rw [if_neg h2] at hs; simp at hs
      have d1 : decide (2147483647 < v / 8) = false := decide_eq_false h1
      have hq : v / 8 = 0 := by omega
      have e0 := Road.wi64 (v / 8) (v / 8) rfl (by omega) (by omega)
      rw [hq] at d1
      have H := Aside0.mk h
      have HV := Aside0.mk hv
      have HE := Aside0.mk hE
      clear h hv hs hE hz hlt h1 h2 e0
      go_enter Tryd.func60, Tryd.ntmps60
      go_wp2_with fail
      refine (scan_some A c l v n w H.out HV.out).mono ?_
      rintro e w1 ⟨rfl, hb1⟩
      have HB1 := Aside0.mk hb1
      obtain ⟨t, u, hg⟩ := (HE.out.below hb1).c
      clear hb1
      go_wp2_with fail
      all_goals go_quiet (fail)
      all_goals go_wp2_with fail
      all_goals try simp only [Exit.inBlock, Exit.then]
      all_goals refine bodyPost_ret (results_tmp4 rfl _ _ _) rfl ?_
      all_goals exact ⟨t, u, rfl, pw_below_drewN HB1.out _⟩
set_option maxHeartbeats 8000000 in
set_option maxRecDepth 100000 in
theorem tag_some (A : Option Addr) (c : Nat) (l : List Int) (q ty n : Int) (w : World) (h : Row8 w A c l) (hs : tagV l = some (q, ty, n)) :
    Calls Tryd.prog 60 #[.slice A l.length c] w fun e w' => e = .returned (.tuple #[.int .i64 q, .int .i64 ty, .int .i64 n, .nilIface]) ∧ Below w.heap.size w w' := by
  unfold tagV at hs
  cases hv : scanV 0 0 l with
  | none => rw [hv] at hs; simp at hs
  | some p =>
    obtain ⟨v, n'⟩ := p
    rw [hv] at hs
    simp only at hs
    have hz := scanV_size l 0 0 v n' (by decide) hv
    have hlt := scanV_lt l 0 0 v n' (by decide) (by decide) h.bytes hv
    by_cases h1 : v / 8 > 2147483647
    · rw [if_pos h1] at hs; simp at hs
    · rw [if_neg h1] at hs
      by_cases h2 : v / 8 < 1
      · rw [if_pos h2] at hs; simp at hs
      · rw [if_neg h2] at hs
        simp only [Option.some.injEq, Prod.mk.injEq] at hs
        obtain ⟨rfl, rfl, rfl⟩ := hs
        have d1 : decide (2147483647 < v / 8) = false := decide_eq_false h1
        have d2 : decide (v / 8 < 1) = false := decide_eq_false h2
        have E : IntKind.i64.wrap (v / 8) = v / 8 ∧ bits .and .u64 v 7 = v % 8 ∧ IntKind.i64.wrap (v % 8) = v % 8 :=
          ⟨Road.wi64 _ _ rfl (by omega) (by omega), bits_mask .u64 64 (by decide) wraps_u64 3 (by decide) v (by omega) (by omega), Road.wi64 _ _ rfl (by omega) (by omega)⟩
        obtain ⟨e0, e1, e2⟩ := E
        have H := Aside0.mk h
        have HV := Aside0.mk hv
        clear h hv hz hlt h1 h2
        go_enter Tryd.func60, Tryd.ntmps60
        go_wp2_with fail
        refine (scan_some A c l v n' w H.out HV.out).mono ?_
        rintro e w1 ⟨rfl, hb1⟩
        have HB1 := Aside0.mk hb1
        clear hb1
        go_wp2_with fail
        try simp only [Exit.inBlock, Exit.then]
        refine bodyPost_ret (results_tmp4 rfl _ _ _) rfl ?_
        exact ⟨rfl, HB1.out⟩
/-- How many bytes a value of a type has (0, 1, 2, 5 alone). -/
def valV (ty : Int) (l : List Int) : Option Int :=
  if ty = 0 then (scanV 0 0 l).map (·.2) else if ty = 5 then (if l.length < 4 then none else some 4) else if ty = 1 then (if l.length < 8 then none else some 8) else (bytesV l).map fun r => r.2 + r.1
set_option maxHeartbeats 8000000 in
set_option maxRecDepth 100000 in
theorem val_some (A : Option Addr) (c : Nat) (l : List Int) (ty m : Int) (w : World) (hy : ty = 0 ∨ ty = 1 ∨ ty = 2 ∨ ty = 5) (h : Row8 w A c l) (hs : valV ty l = some m) :
    Calls Tryd.prog 61 #[.int .i64 ty, .slice A l.length c] w fun e w' => e = .returned (.tuple #[.int .i64 m, .nilIface]) ∧ Below w.heap.size w w' := by
  unfold valV at hs
  rcases hy with rfl | rfl | rfl | rfl
  · simp only [if_true] at hs
    obtain ⟨⟨v, n⟩, hv, rfl⟩ := Option.map_eq_some_iff.1 hs
    have H := Aside0.mk h
    have HV := Aside0.mk hv
    clear h hv hs
    go_enter Tryd.func61, Tryd.ntmps61
    go_wp2_with fail
    refine (scan_some A c l v n w H.out HV.out).mono ?_
    rintro e w1 ⟨rfl, hb1⟩
    have HB1 := Aside0.mk hb1
    clear hb1
    go_wp2_with fail
    go_ret2
    exact ⟨rfl, HB1.out⟩
  · rw [if_neg (by decide), if_neg (by decide), if_pos rfl] at hs
    split at hs
    · simp at hs
    · rename_i h8
      obtain rfl := Option.some.inj hs
      have d1 : decide ((l.length : Int) < 8) = false := decide_eq_false (by omega)
      have d2 : decide (l.length < 8) = false := decide_eq_false h8
      clear h hs h8
      go_enter Tryd.func61, Tryd.ntmps61
      go_wp2_with fail
      go_ret2
      exact ⟨rfl, Below.refl _ _⟩
  · rw [if_neg (by decide), if_neg (by decide), if_neg (by decide)] at hs
    obtain ⟨⟨v, n⟩, hv, rfl⟩ := Option.map_eq_some_iff.1 hs
    have H := Aside0.mk h
    have HV := Aside0.mk hv
    clear h hv hs
    go_enter Tryd.func61, Tryd.ntmps61
    go_wp2_with fail
    refine (bytes_some A c l v n w H.out HV.out).mono ?_
    rintro e w1 ⟨rfl, hb1⟩
    have HB1 := Aside0.mk hb1
    clear hb1
    go_wp2_with fail
    go_ret2
    exact ⟨rfl, HB1.out⟩
  · rw [if_neg (by decide), if_pos rfl] at hs
    split at hs
    · simp at hs
    · rename_i h8
      obtain rfl := Option.some.inj hs
      have d1 : decide ((l.length : Int) < 4) = false := decide_eq_false (by omega)
      have d2 : decide (l.length < 4) = false := decide_eq_false h8
      clear h hs h8
      go_enter Tryd.func61, Tryd.ntmps61
      go_wp2_with fail
      go_ret2
      exact ⟨rfl, Below.refl _ _⟩
set_option maxHeartbeats 8000000 in
set_option maxRecDepth 100000 in
theorem val_none (A : Option Addr) (c : Nat) (l : List Int) (ty : Int) (w : World) (hy : ty = 0 ∨ ty = 1 ∨ ty = 2 ∨ ty = 5) (h : Row8 w A c l) (hs : valV ty l = none) (hE : ErrLaid3 w) :
    Calls Tryd.prog 61 #[.int .i64 ty, .slice A l.length c] w fun e w' => ∃ t u, e = .returned (.tuple #[.int .i64 0, .iface t u]) ∧ Below w.heap.size w w' := by
  unfold valV at hs
  rcases hy with rfl | rfl | rfl | rfl
  · simp only [if_true] at hs
    have hv := Option.map_eq_none_iff.1 hs
    have H := Aside0.mk h
    have HV := Aside0.mk hv
    have HE := Aside0.mk hE
    clear h hv hs hE
    go_enter Tryd.func61, Tryd.ntmps61
    go_wp2_with fail
    refine (scan_none A c l w H.out.cells H.out.bytes HV.out HE.out.e).mono ?_
    rintro e w1 ⟨t, u, rfl, hb1⟩
    have HB1 := Aside0.mk hb1
    clear hb1
    go_wp2_with fail
    go_ret2
    exact ⟨t, u, rfl, HB1.out⟩
  · rw [if_neg (by decide), if_neg (by decide), if_pos rfl] at hs
    split at hs
    · rename_i h8
      have d1 : decide ((l.length : Int) < 8) = true := decide_eq_true (by omega)
      have d2 : decide (l.length < 8) = true := decide_eq_true h8
      obtain ⟨t, u, hg⟩ := hE.e.a
      clear h hs h8 hE
      go_enter Tryd.func61, Tryd.ntmps61
      go_wp2_with fail
      go_quiet (fail)
      go_wp2_with fail
      go_ret2
      exact ⟨t, u, rfl, pw_below_drewN (Below.refl _ _) _⟩
    · simp at hs
  · rw [if_neg (by decide), if_neg (by decide), if_neg (by decide)] at hs
    have hv := Option.map_eq_none_iff.1 hs
    have H := Aside0.mk h
    have HV := Aside0.mk hv
    have HE := Aside0.mk hE
    clear h hv hs hE
    go_enter Tryd.func61, Tryd.ntmps61
    go_wp2_with fail
    refine (bytes_none A c l w H.out HV.out HE.out.e).mono ?_
    rintro e w1 ⟨t, u, rfl, hb1⟩
    have HB1 := Aside0.mk hb1
    clear hb1
    go_wp2_with fail
    go_ret2
    exact ⟨t, u, rfl, HB1.out⟩
  · rw [if_neg (by decide), if_pos rfl] at hs
    split at hs
    · rename_i h8
      have d1 : decide ((l.length : Int) < 4) = true := decide_eq_true (by omega)
      have d2 : decide (l.length < 4) = true := decide_eq_true h8
      obtain ⟨t, u, hg⟩ := hE.e.a
      clear h hs h8 hE
      go_enter Tryd.func61, Tryd.ntmps61
      go_wp2_with fail
      go_quiet (fail)
      go_wp2_with fail
      go_ret2
      exact ⟨t, u, rfl, pw_below_drewN (Below.refl _ _) _⟩
    · simp at hs
/-- A whole field. -/
def fieldV (l : List Int) : Option (Int × Int × Int) :=
  (tagV l).bind fun r => (valV r.2.1 (l.drop r.2.2.toNat)).map fun m => (r.1, r.2.1, r.2.2 + m)
theorem tagV_size (l : List Int) (q ty n : Int) (h : tagV l = some (q, ty, n)) : 0 < n ∧ n ≤ l.length := by
  unfold tagV at h
  cases hv : scanV 0 0 l with
  | none => rw [hv] at h; simp at h
  | some p =>
    obtain ⟨v, n'⟩ := p
    rw [hv] at h
    simp only at h
    have hz := scanV_size l 0 0 v n' (by decide) hv
    split at h
    · simp at h
    · split at h
      · simp at h
      · simp only [Option.some.injEq, Prod.mk.injEq] at h
        obtain ⟨_, _, rfl⟩ := h
        omega
theorem row8_drop {w : World} {ad : Addr} {c : Nat} {l : List Int} (h : Row8 w (some ad) c l) (k : Nat) : Row8 w (some (ad.add k)) (c - k) (l.drop k) := by
  refine ⟨fun j hj => ?_, fun x hx => h.bytes x (List.mem_of_mem_drop hx), by have := h.cap; simp; omega, by have := h.small; simp; omega⟩
  have hj' : k + j < l.length := by simp at hj; omega
  obtain ⟨ad', e, hc⟩ := h.cells (k + j) hj'
  obtain rfl := Option.some.inj e
  refine ⟨_, rfl, ?_⟩
  have ea : (ad.add k).add j = ad.add (k + j) := by unfold Addr.add; split <;> split <;> simp_all [Nat.add_assoc]
  rw [ea, hc, List.getElem_drop]
theorem row8_nil (w : World) (A : Option Addr) (c : Nat) : Row8 w A c [] := ⟨fun j hj => by simp at hj, by simp, by simp, by simp⟩
theorem fieldV_size (l : List Int) (q ty n : Int) (h : fieldV l = some (q, ty, n)) : 0 < n ∧ n ≤ l.length := by
  unfold fieldV at h
  obtain ⟨⟨q', ty', n'⟩, ht, h⟩ := Option.bind_eq_some_iff.1 h
  obtain ⟨m, hm, e⟩ := Option.map_eq_some_iff.1 h
  simp only [Prod.mk.injEq] at e hm
  obtain ⟨rfl, rfl, rfl⟩ := e
  have hz := tagV_size l q' ty' n' ht
  have hdl : (l.drop n'.toNat).length = l.length - n'.toNat := by simp
  unfold valV at hm
  split at hm
  · obtain ⟨⟨v, z⟩, hv, rfl⟩ := Option.map_eq_some_iff.1 hm
    have := scanV_size _ 0 0 v z (by decide) hv
    simp only
    omega
  · split at hm
    · split at hm
      · simp at hm
      · have := Option.some.inj hm; omega
    · split at hm
      · split at hm
        · simp at hm
        · have := Option.some.inj hm; omega
      · obtain ⟨⟨v, z⟩, hv, rfl⟩ := Option.map_eq_some_iff.1 hm
        unfold bytesV at hv
        cases hz2 : scanV 0 0 (l.drop n'.toNat) with
        | none => rw [hz2] at hv; simp at hv
        | some p =>
          obtain ⟨v2, z2⟩ := p
          rw [hz2] at hv
          simp only at hv
          have := scanV_size _ 0 0 v2 z2 (by decide) hz2
          split at hv
          · simp at hv
          · simp only [Option.some.injEq, Prod.mk.injEq] at hv
            obtain ⟨rfl, rfl⟩ := hv
            simp only
            omega
set_option maxHeartbeats 8000000 in
set_option maxRecDepth 100000 in
theorem field_some (A : Option Addr) (c : Nat) (l : List Int) (q ty n : Int) (w : World) (h : Row8 w A c l) (hs : fieldV l = some (q, ty, n)) (hy : ty = 0 ∨ ty = 1 ∨ ty = 2 ∨ ty = 5) :
    Calls Tryd.prog 53 #[.slice A l.length c] w fun e w' => e = .returned (.tuple #[.int .i64 q, .int .i64 ty, .int .i64 n, .nilIface]) ∧ Below w.heap.size w w' := by
  have hfs := fieldV_size l q ty n hs
  unfold fieldV at hs
  obtain ⟨⟨q', ty', n'⟩, ht, hs⟩ := Option.bind_eq_some_iff.1 hs
  obtain ⟨m, hm, e⟩ := Option.map_eq_some_iff.1 hs
  simp only [Prod.mk.injEq] at e hm
  obtain ⟨rfl, rfl, rfl⟩ := e
  have hz := tagV_size l q' ty' n' ht
  obtain ⟨ad, rfl, hq⟩ := h.cells 0 (by omega)
  clear hq
  obtain ⟨k, rfl⟩ := Int.eq_ofNat_of_zero_le (show 0 ≤ n' by omega)
  rw [Int.toNat_natCast] at hm
  have hsm := h.small
  have hcp := h.cap
  have hkl : (l.drop k).length = l.length - k := by simp
  have hv := fun w (hr : Row8 w _ _ _) => val_some (some (ad.add k)) (c - k) (l.drop k) ty' m w hy hr hm
  rw [hkl] at hv
  have hv0 := fun w (hr : Row8 w _ _ _) => val_some (some ad) 0 (l.drop k) ty' m w hy hr hm
  rw [hkl] at hv0
  have k1 := eq_true (show k ≤ l.length by omega)
  have k2 := eq_true (show (k : Int) ≤ (l.length : Int) by omega)
  have k3 := eq_true (show (0 : Int) ≤ (k : Int) by omega)
  have k4 := eq_true (show l.length ≤ c from hcp)
  have hck : k = c → l.length = k := by omega
  obtain ⟨s, hsn⟩ : ∃ s, s = (k : Int) + m := ⟨_, rfl⟩
  have e4 : wrap64 ((k : Int) + m) = s := by rw [hsn]; exact Road.w64 _ _ rfl (by omega) (by omega)
  have H := Aside0.mk h
  have HT := Aside0.mk ht
  have HV := Aside0.mk hv
  have HV0 := Aside0.mk hv0
  have HS := Aside0.mk hsn
  have HCK := Aside0.mk hck
  clear h ht hv hv0 hs hz hm hsm hcp hsn hfs hy hkl hck
  go_enter Tryd.func53, Tryd.ntmps53
  go_wp2_with fail
  refine (tag_some (some ad) c l q' ty' (k : Int) w H.out HT.out).mono ?_
  rintro e w1 ⟨rfl, hb1⟩
  have HB1 := Aside0.mk hb1
  clear hb1
  go_wp2_with fail
  · have hnil : l.drop k = [] := List.drop_eq_nil_of_le (by have h1 := H.out.cap; have h2 : c = k := (by assumption); omega)
    refine (HV0.out w1 (by rw [hnil]; exact row8_nil _ _ _)).mono ?_
    rintro e w2 ⟨rfl, hb2⟩
    have HB2 := Aside0.mk (below_step HB1.out hb2)
    clear hb2 hnil
    go_wp2_with fail
    try simp only [Exit.inBlock, Exit.then]
    refine bodyPost_ret (results_tmp4 rfl _ _ _) rfl ?_
    exact ⟨by rw [e4, ← HS.out]; rfl, HB2.out⟩
  · refine (HV.out w1 (row8_drop (H.out.below HB1.out) k)).mono ?_
    rintro e w2 ⟨rfl, hb2⟩
    have HB2 := Aside0.mk (below_step HB1.out hb2)
    clear hb2
    go_wp2_with fail
    try simp only [Exit.inBlock, Exit.then]
    refine bodyPost_ret (results_tmp4 rfl _ _ _) rfl ?_
    exact ⟨by rw [e4, ← HS.out]; rfl, HB2.out⟩
set_option maxHeartbeats 8000000 in
set_option maxRecDepth 100000 in
theorem field_none1 (A : Option Addr) (c : Nat) (l : List Int) (w : World) (h : Row8 w A c l) (ht : tagV l = none) (hE : ErrLaid3 w) :
    Calls Tryd.prog 53 #[.slice A l.length c] w fun e w' => ∃ t u, e = .returned (.tuple #[.int .i64 0, .int .i64 0, .int .i64 0, .iface t u]) ∧ Below w.heap.size w w' := by
  have H := Aside0.mk h
  have HT := Aside0.mk ht
  have HE := Aside0.mk hE
  clear h ht hE
  go_enter Tryd.func53, Tryd.ntmps53
  go_wp2_with fail
  refine (tag_none A c l w H.out HT.out HE.out).mono ?_
  rintro e w1 ⟨t, u, rfl, hb1⟩
  have HB1 := Aside0.mk hb1
  clear hb1
  go_wp2_with fail
  try simp only [Exit.inBlock, Exit.then]
  refine bodyPost_ret (results_tmp4 rfl _ _ _) rfl ?_
  exact ⟨t, u, rfl, HB1.out⟩
set_option maxHeartbeats 8000000 in
set_option maxRecDepth 100000 in
theorem field_none2 (A : Option Addr) (c : Nat) (l : List Int) (q' ty' n' : Int) (w : World) (h : Row8 w A c l) (ht : tagV l = some (q', ty', n')) (hy : ty' = 0 ∨ ty' = 1 ∨ ty' = 2 ∨ ty' = 5) (hm : valV ty' (l.drop n'.toNat) = none) (hE : ErrLaid3 w) :
    Calls Tryd.prog 53 #[.slice A l.length c] w fun e w' => ∃ t u, e = .returned (.tuple #[.int .i64 0, .int .i64 0, .int .i64 0, .iface t u]) ∧ Below w.heap.size w w' := by
  have hz := tagV_size l q' ty' n' ht
  obtain ⟨ad, rfl, hq⟩ := h.cells 0 (by omega)
  clear hq
  obtain ⟨k, rfl⟩ := Int.eq_ofNat_of_zero_le (show 0 ≤ n' by omega)
  rw [Int.toNat_natCast] at hm
  have hsm := h.small
  have hcp := h.cap
  have hkl : (l.drop k).length = l.length - k := by simp
  have hv := fun w (hr : Row8 w _ _ _) (he : ErrLaid3 w) => val_none (some (ad.add k)) (c - k) (l.drop k) ty' w hy hr hm he
  rw [hkl] at hv
  have hv0 := fun w (hr : Row8 w _ _ _) (he : ErrLaid3 w) => val_none (some ad) 0 (l.drop k) ty' w hy hr hm he
  rw [hkl] at hv0
  have k1 := eq_true (show k ≤ l.length by omega)
  have k2 := eq_true (show (k : Int) ≤ (l.length : Int) by omega)
  have k3 := eq_true (show (0 : Int) ≤ (k : Int) by omega)
  have k4 := eq_true (show l.length ≤ c from hcp)
  have H := Aside0.mk h
  have HT := Aside0.mk ht
  have HE := Aside0.mk hE
  have HV := Aside0.mk hv
  have HV0 := Aside0.mk hv0
  clear h ht hv hv0 hz hm hsm hcp hy hkl hE
  go_enter Tryd.func53, Tryd.ntmps53
  go_wp2_with fail
  refine (tag_some (some ad) c l q' ty' (k : Int) w H.out HT.out).mono ?_
  rintro e w1 ⟨rfl, hb1⟩
  have HB1 := Aside0.mk hb1
  clear hb1
  go_wp2_with fail
  · have hnil : l.drop k = [] := List.drop_eq_nil_of_le (by have h1 := H.out.cap; have h2 : c = k := (by assumption); omega)
    refine (HV0.out w1 (by rw [hnil]; exact row8_nil _ _ _) (HE.out.below HB1.out)).mono ?_
    rintro e w2 ⟨t, u, rfl, hb2⟩
    have HB2 := Aside0.mk (below_step HB1.out hb2)
    clear hb2 hnil
    go_wp2_with fail
    try simp only [Exit.inBlock, Exit.then]
    refine bodyPost_ret (results_tmp4 rfl _ _ _) rfl ?_
    exact ⟨t, u, rfl, HB2.out⟩
  · refine (HV.out w1 (row8_drop (H.out.below HB1.out) k) (HE.out.below HB1.out)).mono ?_
    rintro e w2 ⟨t, u, rfl, hb2⟩
    have HB2 := Aside0.mk (below_step HB1.out hb2)
    clear hb2
    go_wp2_with fail
    try simp only [Exit.inBlock, Exit.then]
    refine bodyPost_ret (results_tmp4 rfl _ _ _) rfl ?_
    exact ⟨t, u, rfl, HB2.out⟩
/-- The types of a field that a message has. -/
def TyOk (l : List Int) : Prop := ∀ q ty n, tagV l = some (q, ty, n) → ty = 0 ∨ ty = 1 ∨ ty = 2 ∨ ty = 5
theorem field_none (A : Option Addr) (c : Nat) (l : List Int) (w : World) (h : Row8 w A c l) (hs : fieldV l = none) (hy : TyOk l) (hE : ErrLaid3 w) :
    Calls Tryd.prog 53 #[.slice A l.length c] w fun e w' => ∃ t u, e = .returned (.tuple #[.int .i64 0, .int .i64 0, .int .i64 0, .iface t u]) ∧ Below w.heap.size w w' := by
  cases ht : tagV l with
  | none => exact field_none1 A c l w h ht hE
  | some p =>
    unfold fieldV at hs
    rw [ht, Option.bind_some] at hs
    exact field_none2 A c l p.1 p.2.1 p.2.2 w h ht (hy _ _ _ ht) (Option.map_eq_none_iff.1 hs) hE
theorem fdoor_some (A : Option Addr) (c : Nat) (l : List Int) (q ty n : Int) (w : World) (h : Row8 w A c l) (hs : fieldV l = some (q, ty, n)) (hy : ty = 0 ∨ ty = 1 ∨ ty = 2 ∨ ty = 5) :
    Calls Tryd.prog 39 #[.slice A l.length c] w fun e w' => e = .returned (.tuple #[.int .i64 q, .int .i64 ty, .int .i64 n, .nilIface]) ∧ Below w.heap.size w w' := by
  go_enter Tryd.func39, Tryd.ntmps39
  go_wp2_with fail
  refine (field_some A c l q ty n w h hs hy).mono ?_
  rintro e w1 ⟨rfl, hb1⟩
  go_wp2_with fail
  try simp only [Exit.inBlock, Exit.then]
  refine bodyPost_ret (results_tmp4 rfl _ _ _) rfl ?_
  exact ⟨rfl, hb1⟩
theorem fdoor_none (A : Option Addr) (c : Nat) (l : List Int) (w : World) (h : Row8 w A c l) (hs : fieldV l = none) (hy : TyOk l) (hE : ErrLaid3 w) :
    Calls Tryd.prog 39 #[.slice A l.length c] w fun e w' => ∃ t u, e = .returned (.tuple #[.int .i64 0, .int .i64 0, .int .i64 0, .iface t u]) ∧ Below w.heap.size w w' := by
  go_enter Tryd.func39, Tryd.ntmps39
  go_wp2_with fail
  refine (field_none A c l w h hs hy hE).mono ?_
  rintro e w1 ⟨t, u, rfl, hb1⟩
  go_wp2_with fail
  try simp only [Exit.inBlock, Exit.then]
  refine bodyPost_ret (results_tmp4 rfl _ _ _) rfl ?_
  exact ⟨t, u, rfl, hb1⟩
theorem one_nil (w : World) : Calls Tryd.prog 36 #[.nilIface] w fun e w' => e = .returned (.int .i64 0) ∧ w' = w := by
  go_enter Tryd.func36, Tryd.ntmps36
  go_wp2
  go_ret
  exact ⟨rfl, rfl⟩
theorem one_err (t : TypeId) (u : Value) (w : World) : Calls Tryd.prog 36 #[.iface t u] w fun e w' => e = .returned (.int .i64 1) ∧ w' = w := by
  go_enter Tryd.func36, Tryd.ntmps36
  go_wp2
  go_ret
  exact ⟨rfl, rfl⟩
theorem ifield_some (A : Option Addr) (c : Nat) (l : List Int) (q ty n : Int) (w : World) (h : Row8 w A c l) (hs : fieldV l = some (q, ty, n)) (hy : ty = 0 ∨ ty = 1 ∨ ty = 2 ∨ ty = 5) :
    Calls Tryd.prog 17 #[.slice A l.length c] w fun e w' => e = .returned (.tuple #[.int .i64 q, .int .i64 ty, .int .i64 n, .int .i64 0]) ∧ Below w.heap.size w w' := by
  go_enter Tryd.func17, Tryd.ntmps17
  go_wp2_with fail
  refine (fdoor_some A c l q ty n w h hs hy).mono ?_
  rintro e w1 ⟨rfl, hb1⟩
  go_wp2_with fail
  refine (one_nil w1).mono ?_
  rintro e w2 ⟨rfl, rfl⟩
  go_wp2_with fail
  try simp only [Exit.inBlock, Exit.then]
  refine bodyPost_ret (results_tmp4 rfl _ _ _) rfl ?_
  exact ⟨rfl, hb1⟩
theorem ifield_none (A : Option Addr) (c : Nat) (l : List Int) (w : World) (h : Row8 w A c l) (hs : fieldV l = none) (hy : TyOk l) (hE : ErrLaid3 w) :
    Calls Tryd.prog 17 #[.slice A l.length c] w fun e w' => e = .returned (.tuple #[.int .i64 0, .int .i64 0, .int .i64 0, .int .i64 1]) ∧ Below w.heap.size w w' := by
  go_enter Tryd.func17, Tryd.ntmps17
  go_wp2_with fail
  refine (fdoor_none A c l w h hs hy hE).mono ?_
  rintro e w1 ⟨t, u, rfl, hb1⟩
  go_wp2_with fail
  refine (one_err t u w1).mono ?_
  rintro e w2 ⟨rfl, rfl⟩
  go_wp2_with fail
  try simp only [Exit.inBlock, Exit.then]
  refine bodyPost_ret (results_tmp4 rfl _ _ _) rfl ?_
  exact ⟨rfl, hb1⟩

end Go.Proofs.YtmfblbjklmgncaaDoor.ProtoFieldW
