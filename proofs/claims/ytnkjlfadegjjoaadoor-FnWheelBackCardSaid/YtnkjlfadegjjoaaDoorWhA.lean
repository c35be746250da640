/- WALKS: a timing wheel (thw.HashWheel) in memory: made, a task put, taken out, moved. -/
import Derived.Test.YtnkjlfadegjjoaaDoorProg
import Derived.Below
import Derived.Deep.Draws
import Derived.Deep.AppendLies
import Derived.Maps.AppendAt
import Derived.OwnWalk
import Derived.Laws.BytesArg
import Derived.Laws.MakeOwn
import Derived.Laws.OwnMore
import Derived.Deep.OwnRows
import Derived.Tactics
import Derived.Lib.ConvBytes
import Derived.Laws.Slices
import Derived.WalkKit
import Derived.KernelRfl
import Derived.RowKit3
import Derived.Deep.LoopGhost
import Derived.Deep.QuietTactic
import Derived.BigQuiet
import Derived.WideLaws
import Derived.Deep.DeepCutAuto
import Derived.Deep.CutBlock
import Derived.Deep.RegionHeld3
import Derived.Laws.Rows
import Derived.Lib.AppendStr
import Derived.ArgAppend
import Derived.Laws.IdiomCopy
import Derived.OrdersHeld
import Derived.Laws.BitsLemmas
import Derived.RowKit
import Derived.Test.YtnkjlfadegjjoaaDoorWWords
import Derived.Test.YtnkjlfadegjjoaaDoorWLast
import Derived.Test.YtnkjlfadegjjoaaDoorWTab
import Derived.Test.YtnkjlfadegjjoaaDoorWFour
import Derived.Test.YtnkjlfadegjjoaaDoorWQPut
import Derived.Test.YtnkjlfadegjjoaaDoorWApart
import Derived.Test.YtnkjlfadegjjoaaDoorWArr
import Derived.Test.YtnkjlfadegjjoaaDoorWZeros
import Derived.Test.YtnkjlfadegjjoaaDoorWFoot
import Derived.Test.YtnkjlfadegjjoaaDoorWKept
import Derived.Test.YtnkjlfadegjjoaaDoorWShare
import Derived.Test.YtnkjlfadegjjoaaDoorWN
import Derived.Test.YtnkjlfadegjjoaaDoorWFootNe
import Derived.Test.YtnkjlfadegjjoaaDoorWAt
import Derived.Test.YtnkjlfadegjjoaaDoorWEqStruct
import Derived.Test.YtnkjlfadegjjoaaDoorWRepsOne
import Derived.Test.YtnkjlfadegjjoaaDoorWInv
import Derived.Test.YtnkjlfadegjjoaaDoorWInvWords
import Derived.Test.YtnkjlfadegjjoaaDoorWGuard
import Derived.Test.YtnkjlfadegjjoaaDoorWNEv
import Derived.Test.YtnkjlfadegjjoaaDoorWMore
import Derived.Test.YtnkjlfadegjjoaaDoorRoad
import Derived.Test.YtnkjlfadegjjoaaDoorRunes
import Derived.Lib.EndianBits
import Derived.Stop.LaidErr
import Derived.RegionTactic
import Derived.StillTailTactics
import Derived.Maps.RangeWalk
import Derived.Maps.Ext
namespace Go.Proofs.YtnkjlfadegjjoaaDoor.WhA
open Go.RowKit Go.Proofs.YtnkjlfadegjjoaaDoorW.PrintWords Go.Proofs.YtnkjlfadegjjoaaDoorW.PrintLast Go.Proofs.YtnkjlfadegjjoaaDoorW.PrintMore
attribute [local go_sem] max2_int min2_int max_two min_two max_three min_three max_four min_four   -- for this text's walks alone
set_option linter.unusedVariables false
set_option linter.unusedSimpArgs false



open Go.Maps
/-! ### tasks, slots, the wheel in memory -/
abbrev Tk := Int × Int
def pos (t : Int) : Nat := (t / 1000000000 % 4096).toNat
theorem pos_lt (t : Int) : pos t < 4096 := by unfold pos; omega
@[reducible] def mxT : Int := 9223372036854775807
def kL (x : Int) : Lit := .int .u64 x
def wfU (x : Int) : Prop := 0 ≤ x ∧ x < 18446744073709551616
theorem wf_of_U {x : Int} (h : wfU x) : (Lit.int .u64 x).wf = true := by
  obtain ⟨h1, h2⟩ := h
  simp [Lit.wf, IntKind.min, IntKind.max, IntKind.signed, IntKind.bits]
  omega
theorem U_of_wf {x : Int} (h : (Lit.int .u64 x).wf = true) : wfU x := by
  simp [Lit.wf, IntKind.min, IntKind.max, IntKind.signed, IntKind.bits] at h
  unfold wfU
  omega
theorem kL_ne {x y : Int} (h : x ≠ y) : kL x ≠ kL y := fun e => h (by injection e)
theorem kL_key (x : Int) : WideAt.IsKeyLit (kL x) := trivial
/-- The map's datum holds just the tasks L. -/
def MapIs (D : DataW Unit) (L : Tk → Prop) : Prop :=
  (∀ x, wfU x → (Maps.has D (kL x) = true ↔ ∃ e, L (x, e))) ∧ (∀ x e, L (x, e) → wfU x ∧ ∀ zd, D.atKey (kL x) zd = .lit (.int .i64 e))
def mapD (n : Nat) (w : World) (m : Nat) (D : DataW Unit) : Prop := w.ownsMap Tryd.prog 32 (plainElem Tryd.prog 2) m n D
def MapAt (n : Nat) (w : World) (m : Nat) (L : Tk → Prop) : Prop := ∃ D, mapD n w m D ∧ MapIs D L
theorem lawU : Keyed Tryd.prog 32 := int_keyed Tryd.underlying32
theorem MapIs.congr {D : DataW Unit} {L L' : Tk → Prop} (h : MapIs D L) (e : ∀ y, L y ↔ L' y) : MapIs D L' :=
  ⟨fun x hx => (h.1 x hx).trans ⟨fun ⟨z, hz⟩ => ⟨z, (e _).1 hz⟩, fun ⟨z, hz⟩ => ⟨z, (e _).2 hz⟩⟩, fun x z hz => h.2 x z ((e _).2 hz)⟩
theorem MapIs.one {D : DataW Unit} {L : Tk → Prop} (h : MapIs D L) {x a b : Int} (ha : L (x, a)) (hb : L (x, b)) : a = b := by
  have e := ((h.2 x a ha).2 (.nil)).symm.trans ((h.2 x b hb).2 .nil)
  injection e with e
  injection e with _ e
theorem MapIs.empty : MapIs (.map []) (fun _ => False) := ⟨fun x _ => ⟨fun h => by simp [Maps.has] at h, fun ⟨_, h⟩ => h.elim⟩, fun _ _ h => h.elim⟩
theorem MapIs.put {D : DataW Unit} {L : Tk → Prop} (h : MapIs D L) (hD : IsMap D) {x e : Int} (hx : wfU x) (hn : ∀ z, ¬ L (x, z)) : MapIs (D.put (kL x) (.lit (.int .i64 e))) (fun y => L y ∨ y = (x, e)) := by
  constructor
  · intro y hy
    by_cases c : y = x
    · subst c
      rw [has_put_same hD (kL_key y)]
      exact ⟨fun _ => ⟨e, .inr rfl⟩, fun _ => rfl⟩
    · rw [has_put_other (kL_ne c), h.1 y hy]
      exact ⟨fun ⟨z, hz⟩ => ⟨z, .inl hz⟩, fun ⟨z, hz⟩ => ⟨z, hz.resolve_right (fun q => c (by injection q))⟩⟩
  · intro y z hz
    by_cases c : y = x
    · subst c
      rcases hz with hz | hz
      · exact absurd hz (hn z)
      · injection hz with _ hz
        subst hz
        exact ⟨hx, fun zd => atKey_put_same hD (kL_key y) _ zd⟩
    · have hz' := hz.resolve_right (fun q => c (by injection q))
      exact ⟨(h.2 y z hz').1, fun zd => (atKey_put_other (kL_ne c) _ zd).trans ((h.2 y z hz').2 zd)⟩
theorem MapIs.del {D : DataW Unit} {L : Tk → Prop} (h : MapIs D L) (x : Int) : MapIs (D.del (kL x)) (fun y => L y ∧ y.1 ≠ x) := by
  constructor
  · intro y hy
    by_cases c : y = x
    · subst c
      rw [has_del_same]
      exact ⟨fun q => absurd q (by simp), fun ⟨z, hz⟩ => absurd rfl hz.2⟩
    · rw [has_del_other (kL_ne c), h.1 y hy]
      exact ⟨fun ⟨z, hz⟩ => ⟨z, hz, c⟩, fun ⟨z, hz⟩ => ⟨z, hz.1⟩⟩
  · intro y z hz
    exact ⟨(h.2 y z hz.1).1, fun zd => (atKey_del_other (kL_ne hz.2) zd).trans ((h.2 y z hz.1).2 zd)⟩
/-- The keys are numbers. -/
theorem mapD_keys {n m : Nat} {w : World} {D : DataW Unit} (h : mapD n w m D) : ∃ es, D = .map es ∧ ∀ p ∈ es, ∃ x, p.1 = kL x ∧ wfU x := by
  obtain ⟨es, clock, hb, F, hs, rfl⟩ := h
  refine ⟨_, rfl, fun p hp => ?_⟩
  obtain ⟨x, hx, rfl⟩ := List.mem_map.1 (mem_sorted.1 hp)
  obtain ⟨y, hy⟩ := F.reads x hx
  have hk := WideElems.rd_key hy
  rw [WideElems.rg_of hy]
  obtain ⟨z, _, hz, hw⟩ := Maps.keyOf_int_inv Tryd.underlying32 hk
  exact ⟨z, hz, U_of_wf hw⟩
theorem mapD_size {n m : Nat} {w : World} {D : DataW Unit} {L : Tk → Prop} (h : mapD n w m D) (hD : MapIs D L) : Maps.size D = 0 ↔ ∀ y, ¬ L y := by
  obtain ⟨es, rfl, hk⟩ := mapD_keys h
  rw [Maps.size_eq]
  constructor
  · intro h0 y hy
    have := (hD.1 y.1 (hD.2 y.1 y.2 hy).1).2 ⟨y.2, hy⟩
    rw [List.length_eq_zero_iff.1 h0] at this
    simp [Maps.has] at this
  · intro hn
    rcases es with _ | ⟨p, es⟩
    · rfl
    · obtain ⟨x, hx, hw⟩ := hk p List.mem_cons_self
      have : Maps.has (DataW.map (p :: es)) (kL x) = true := by
        rw [Maps.has_eq, List.any_cons, hx, WideAt.sameKey_self (kL_key x)]
        rfl
      obtain ⟨e, he⟩ := (hD.1 x hw).1 this
      exact absurd he (hn _)
theorem mapD_size_le {n m : Nat} {w : World} {D : DataW Unit} (h : mapD n w m D) : Maps.size D ≤ n := by
  obtain ⟨es, clock, _, _, hs, rfl⟩ := h
  simpa [Maps.size, length_sorted] using hs
/-- One slot. -/
structure Slt where
  b : Nat
  m : Nat
  low : Int
def adO : Option Slt → Option Addr
  | none => none
  | some s => some ⟨s.b, 0, none⟩
@[reducible] def ptrO (x : Option Slt) : Value := .pointer (adO x)
def rowOf (sl : Nat → Option Slt) : Array Value := ((List.range 4096).map (fun i => ptrO (sl i))).toArray
def upd (sl : Nat → Option Slt) (p : Nat) (x : Option Slt) : Nat → Option Slt := fun i => if i = p then x else sl i
theorem upd_same (sl : Nat → Option Slt) (p : Nat) (x : Option Slt) : upd sl p x p = x := if_pos rfl
theorem upd_other (sl : Nat → Option Slt) {p i : Nat} (x : Option Slt) (h : i ≠ p) : upd sl p x i = sl i := if_neg h
theorem upd_upd (sl : Nat → Option Slt) (p : Nat) (x y : Option Slt) : upd (upd sl p x) p y = upd sl p y := by
  funext i
  unfold upd
  split <;> rfl
theorem rowOf_size (sl : Nat → Option Slt) : (rowOf sl).size = 4096 := by
  unfold rowOf
  rw [List.size_toArray, List.length_map, List.length_range]
theorem rowOf_get (sl : Nat → Option Slt) (i : Nat) (h : i < 4096) : (rowOf sl)[i]? = some (ptrO (sl i)) := by
  unfold rowOf
  rw [List.getElem?_toArray, List.getElem?_map, List.getElem?_range h]
  rfl
theorem rowOf_set (sl : Nat → Option Slt) (p : Nat) (x : Option Slt) : (rowOf sl).setIfInBounds p (ptrO x) = rowOf (upd sl p x) := by
  apply Array.ext_getElem?
  intro i
  rw [Array.getElem?_setIfInBounds]
  by_cases hi : i < 4096
  · rw [rowOf_get _ i hi, rowOf_get _ i hi]
    by_cases c : p = i
    · subst c
      rw [if_pos rfl, upd_same, rowOf_size, if_pos hi]
    · rw [if_neg c, upd_other _ _ (fun e => c e.symm)]
  · have h1 : (rowOf sl)[i]? = none := Array.getElem?_eq_none (by rw [rowOf_size]; omega)
    have h2 : (rowOf (upd sl p x))[i]? = none := Array.getElem?_eq_none (by rw [rowOf_size]; omega)
    rw [h1, h2]
    by_cases c : p = i
    · rw [if_pos c, rowOf_size, if_neg (by omega)]
    · rw [if_neg c]
@[reducible] def tS : Nat := 59
structure WMem (N : Nat) (w : World) (B hb wb : Nat) (lo cnt : Int) (sl : Nat → Option Slt) (L : Nat → Tk → Prop) : Prop where
  bh : B ≤ hb
  bw : B ≤ wb
  hd : w.heap[hb]? = some (.cells #[.slice (some ⟨wb, 0, none⟩) 4096 4096, .int .i64 lo, .int .u64 cnt] 61 (0, 0))
  row : w.heap[wb]? = some (.cells (rowOf sl) 76 (0, 0))
  slot : ∀ i, i < 4096 → ∀ s, sl i = some s → B ≤ s.b ∧ B ≤ s.m ∧ w.heap[s.b]? = some (.cells #[.map (some s.m), .int .i64 s.low] 79 (0, 0)) ∧ MapAt N w s.m (L i)
  inj : ∀ i j s t, i < 4096 → j < 4096 → sl i = some s → sl j = some t → i ≠ j → s.b ≠ t.b ∧ s.m ≠ t.m
structure WLog (lo : Int) (sl : Nat → Option Slt) (l : List Tk) (ex : Prop) : Prop where
  all : ∀ y ∈ l, wfU y.1 ∧ 0 ≤ y.2 ∧ y.2 ≤ 1152921504606846976
  nd : (l.map (·.1)).Nodup
  len : l.length ≤ 1000000
  loM : lo ≤ mxT
  none : ∀ i, i < 4096 → sl i = none → ∀ y ∈ l, pos y.2 ≠ i
  low : ∀ i, i < 4096 → ∀ s, sl i = some s → lo ≤ s.low ∧ s.low ≤ mxT ∧ ∀ y ∈ l, pos y.2 = i → s.low ≤ y.2
  att : ex → (∀ i, i < 4096 → ∀ s, sl i = some s → ∃ y ∈ l, pos y.2 = i ∧ y.2 = s.low) ∧ ((l = [] ∧ lo = mxT) ∨ ∃ y ∈ l, y.2 = lo)
@[reducible] def inS (l : List Tk) : Nat → Tk → Prop := fun i y => y ∈ l ∧ pos y.2 = i
def WheelAt (N : Nat) (w : World) (B hb : Nat) (ex : Prop) (l : List Tk) : Prop := ∃ wb lo sl, WMem N w B hb wb lo l.length sl (inS l) ∧ WLog lo sl l ex
/-! ### what stays -/
def wk : Obj → Bool
  | .cells _ T _ => T == 61 || T == 76 || T == 79
  | .map _ _ => true
  | .mapIter .. => true
  | _ => false
/-- .. but the iterators. -/
def wm : Obj → Bool
  | .cells _ T _ => T == 61 || T == 76 || T == 79
  | .map _ _ => true
  | _ => false
theorem wk_of_wm {o : Obj} (h : wm o = true) : wk o = true := by
  cases o <;> first | exact h | exact absurd h (by simp [wm])
/-- The wheel's turn: blocks below B and those that are no wheel's stay. -/
structure ChW (B : Nat) (w w' : World) : Prop where
  os : w'.os = w.os
  tape : w'.tape = w.tape
  output : w'.output = w.output
  size : w.heap.size ≤ w'.heap.size
  low : ∀ k, k < B → k < w.heap.size → w'.heap[k]? = w.heap[k]?
  typ : ∀ (k : Nat) (o : Obj), w.heap[k]? = some o → wk o = false → w'.heap[k]? = some o
theorem ChW.refl (B : Nat) (w : World) : ChW B w w := ⟨rfl, rfl, rfl, Nat.le_refl _, fun _ _ _ => rfl, fun _ _ h _ => h⟩
theorem ChW.trans {B : Nat} {a b c : World} (h : ChW B a b) (k : ChW B b c) : ChW B a c :=
  ⟨k.os.trans h.os, k.tape.trans h.tape, k.output.trans h.output, Nat.le_trans h.size k.size, fun i hi hs => (k.low i hi (Nat.lt_of_lt_of_le hs h.size)).trans (h.low i hi hs), fun i o ho hk => k.typ i o (h.typ i o ho hk) hk⟩
theorem ChW.below {B : Nat} {a b : World} (h : ChW B a b) (hB : B ≤ a.heap.size) : Below B a b := ⟨h.os, h.tape, h.output, h.size, fun k hk => h.low k hk (Nat.lt_of_lt_of_le hk hB)⟩
theorem ChW.of_below {B : Nat} {a b : World} (h : Below a.heap.size a b) : ChW B a b :=
  ⟨h.os, h.tape, h.output, h.size, fun k _ hs => h.block k hs, fun k o ho _ => (h.block k (Array.getElem?_eq_some_iff.1 ho).1).trans ho⟩
theorem ChW.set {B : Nat} {w : World} {g : Nat} (hg : B ≤ g) {o : Obj} (ho : w.heap[g]? = some o) (hk : wk o = true) {w' : World} (h : w.grownBy w' (some g)) : ChW B w w' :=
  ⟨h.os, h.tape, h.output, h.size, fun k hk hs => h.block k hs (fun e => by injection e with e; omega), fun k o' ho' hk' => (h.block k (Array.getElem?_eq_some_iff.1 ho').1 (fun e => by
    injection e with e
    subst e
    rw [ho] at ho'
    injection ho' with ho'
    rw [ho', hk'] at hk
    exact absurd hk (by simp))).trans ho'⟩
theorem grown_setCell (w : World) (g j : Nat) (v : Value) : w.grownBy (w.setCell ⟨g, j, none⟩ v) (some g) :=
  ⟨by simp [World.setCell], by simp [World.setCell], by simp [World.setCell], by simp [World.setCell], fun k _ hne => Road.setCell_other_heap w j v (fun e => hne (by rw [e]))⟩
/-! ### the small functions -/
set_option maxRecDepth 100000 in
theorem getPos_calls (P : Value) (t : Int) (ht : 0 ≤ t ∧ t ≤ 1152921504606846976) (w : World) : Calls Tryd.prog 38 #[P, .int .i64 t] w fun e w' => e = .returned (.int .i64 ((pos t : Nat) : Int)) ∧ w' = w := by
  obtain ⟨n, rfl⟩ := Int.eq_ofNat_of_zero_le ht.1
  have e1 : (n : Int).tdiv 1000000000 = ((n / 1000000000 : Nat) : Int) := by
    rw [Int.tdiv_eq_ediv_of_nonneg (Int.natCast_nonneg n)]
    rfl
  have hn : n ≤ 1152921504606846976 := by have := ht.2; omega
  have hm : n / 1000000000 < 2 ^ 62 := by omega
  obtain ⟨d, hd⟩ : ∃ d, d = n / 1000000000 := ⟨_, rfl⟩
  rw [← hd] at e1 hm
  have e4 := (bits_nat .i64 62 (by decide) (fun n h0 h1 => by rw [IntKind.wrap_i64]; omega) d 4095 hm (by decide)).1
  have e5 : d &&& 4095 = pos (n : Int) := by
    rw [show (4095 : Nat) = 2 ^ 12 - 1 from rfl, Nat.and_two_pow_sub_one_eq_mod]
    unfold pos
    omega
  rw [e5] at e4
  have E4 := Aside0.mk (show bits .and .i64 (d : Int) 4095 = ((pos (n : Int) : Nat) : Int) from e4)
  have HT := Aside0.mk (And.intro ht (And.intro hn (And.intro hm (And.intro hd e5))))
  clear ht hn hm hd e5 e4
  have e6 : IntKind.i64.wrap (d : Int) = (d : Int) := Road.wi64 _ _ rfl (by omega) (by have := HT.out.2.2.1; omega)
  have e7 : wrap64 (d : Int) = (d : Int) := Road.w64 _ _ rfl (by omega) (by have := HT.out.2.2.1; omega)
  go_enter Tryd.func38, Tryd.ntmps38
  go_wp2_with fail
  go_ret
  exact ⟨congrArg (fun z => Ending.returned (.int .i64 z)) E4.out, rfl⟩
set_option maxRecDepth 100000 in
theorem newSlot_calls (w : World) : Calls Tryd.prog 39 #[] w fun e w' => ∃ g m, e = .returned (.pointer (some ⟨g, 0, none⟩)) ∧ w.heap.size ≤ g ∧ w.heap.size ≤ m ∧ w'.heap[g]? = some (.cells #[.map (some m), .int .i64 mxT] 79 (0, 0)) ∧ MapAt 0 w' m (fun _ => False) ∧ Below w.heap.size w w' := by
  have hmm := @run_makeMap Tryd.prog
  go_enter Tryd.func39, Tryd.ntmps39
  go_wp2_with fail
  go_ret
  have s1 : (w.alloc (.map #[] 0)).heap.size = w.heap.size + 1 := by simp
  refine ⟨w.heap.size + 1, w.heap.size, rfl, Nat.le_succ _, Nat.le_refl _, ?_, ⟨.map [], ?_, MapIs.empty⟩, below_alloc (below_alloc (Below.refl _ _) _) _⟩
  · have := heap_alloc_new (w.alloc (.map #[] 0)) (.cells #[.map (some w.heap.size), .int .i64 mxT] 79 (0, 0))
    rw [s1] at this
    exact this
  · exact (World.ownsMap_made w _ _ _).alloc _
set_option maxRecDepth 100000 in
theorem count_calls (w : World) (hb : Nat) (a b c : Value) (h : w.heap[hb]? = some (.cells #[a, b, c] 61 (0, 0))) : Calls Tryd.prog 20 #[.pointer (some ⟨hb, 0, none⟩)] w fun e w' => e = .returned c ∧ w' = w := by
  have c2 : w.cell? ⟨hb, 2, none⟩ = some c := (cell_of_row w hb 2 _ _ _ h).trans rfl
  clear h
  go_enter Tryd.func20, Tryd.ntmps20
  go_wp2_with fail
  go_ret
  exact ⟨rfl, rfl⟩
/-! ### the wheel's memory, step by step -/
theorem ne_obj {w : World} {a b : Nat} {o o' : Obj} (h : w.heap[a]? = some o) (h' : w.heap[b]? = some o') (hne : o ≠ o') : a ≠ b := by
  rintro rfl
  rw [h] at h'
  injection h' with h'
  exact hne h'
theorem cells_ne {c c' : Array Value} {T T' : TypeId} {f f' : Nat × Nat} (h : T ≠ T') : Obj.cells c T f ≠ Obj.cells c' T' f' := fun e => h (by injection e)
theorem map_ne {c : Array Value} {T : TypeId} {f : Nat × Nat} {es : Array MapEntry} {n : Nat} : Obj.cells c T f ≠ Obj.map es n := fun e => by injection e
theorem mapD_keep {n m : Nat} {w w' : World} {D : DataW Unit} (h : mapD n w m D) (hk : w'.heap[m]? = w.heap[m]?) : mapD n w' m D := by
  obtain ⟨es, clock, hb, r⟩ := h
  exact ⟨es, clock, hk.trans hb, r⟩
theorem MapAt.keep {n m : Nat} {w w' : World} {L : Tk → Prop} (h : MapAt n w m L) (hk : w'.heap[m]? = w.heap[m]?) : MapAt n w' m L := by
  obtain ⟨D, hD, hL⟩ := h
  exact ⟨D, mapD_keep hD hk, hL⟩
theorem MapAt.obj {n m : Nat} {w : World} {L : Tk → Prop} (h : MapAt n w m L) : ∃ es c, w.heap[m]? = some (.map es c) := by
  obtain ⟨D, ⟨es, clock, hb, _⟩, _⟩ := h
  exact ⟨es, clock, hb⟩
theorem MapAt.mono {n n' m : Nat} {w : World} {L : Tk → Prop} (h : MapAt n w m L) (hn : n ≤ n') : MapAt n' w m L := by
  obtain ⟨D, hD, hL⟩ := h
  exact ⟨D, hD.mono hn, hL⟩
theorem MapAt.congr {n m : Nat} {w : World} {L L' : Tk → Prop} (h : MapAt n w m L) (e : ∀ y, L y ↔ L' y) : MapAt n w m L' := by
  obtain ⟨D, hD, hL⟩ := h
  exact ⟨D, hD, hL.congr e⟩
section
variable {N B hb wb : Nat} {w w' : World} {lo cnt : Int} {sl : Nat → Option Slt} {L : Nat → Tk → Prop}
theorem WMem.hw (h : WMem N w B hb wb lo cnt sl L) : hb ≠ wb := ne_obj h.hd h.row (cells_ne (by decide))
theorem WMem.hs (h : WMem N w B hb wb lo cnt sl L) {i : Nat} (hi : i < 4096) {s : Slt} (hs : sl i = some s) : s.b ≠ hb ∧ s.b ≠ wb ∧ s.m ≠ hb ∧ s.m ≠ wb := by
  obtain ⟨_, _, h3, h4⟩ := h.slot i hi s hs
  obtain ⟨es, c, h5⟩ := h4.obj
  exact ⟨ne_obj h3 h.hd (cells_ne (by decide)), ne_obj h3 h.row (cells_ne (by decide)), fun e => ne_obj h.hd h5 map_ne e.symm, fun e => ne_obj h.row h5 map_ne e.symm⟩
theorem WMem.bm (h : WMem N w B hb wb lo cnt sl L) {i j : Nat} (hi : i < 4096) (hj : j < 4096) {s t : Slt} (hs : sl i = some s) (ht : sl j = some t) : s.b ≠ t.m := by
  obtain ⟨_, _, h3, _⟩ := h.slot i hi s hs
  obtain ⟨_, _, _, h4⟩ := h.slot j hj t ht
  obtain ⟨es, c, h5⟩ := h4.obj
  exact ne_obj h3 h5 map_ne
/-- One slot and the head may be others. -/
theorem WMem.turn (h : WMem N w B hb wb lo cnt sl L) {N' p : Nat} {lo' cnt' : Int} {L' : Nat → Tk → Prop} (x : Option Slt) (hN : N ≤ N')
    (h1 : w'.heap[hb]? = some (.cells #[.slice (some ⟨wb, 0, none⟩) 4096 4096, .int .i64 lo', .int .u64 cnt'] 61 (0, 0)))
    (h2 : w'.heap[wb]? = some (.cells (rowOf (upd sl p x)) 76 (0, 0)))
    (h3 : ∀ i, i < 4096 → i ≠ p → ∀ s, sl i = some s → w'.heap[s.b]? = w.heap[s.b]? ∧ w'.heap[s.m]? = w.heap[s.m]?)
    (h4 : ∀ s, x = some s → B ≤ s.b ∧ B ≤ s.m ∧ w'.heap[s.b]? = some (.cells #[.map (some s.m), .int .i64 s.low] 79 (0, 0)) ∧ MapAt N' w' s.m (L' p))
    (h5 : ∀ s, x = some s → ∀ i, i < 4096 → i ≠ p → ∀ t, sl i = some t → s.b ≠ t.b ∧ s.m ≠ t.m)
    (hL : ∀ i, i ≠ p → ∀ y, L i y ↔ L' i y) : WMem N' w' B hb wb lo' cnt' (upd sl p x) L' := by
  refine ⟨h.bh, h.bw, h1, h2, fun i hi s hs => ?_, fun i j s t hi hj hs ht hij => ?_⟩
  · by_cases c : i = p
    · subst c
      rw [upd_same] at hs
      exact h4 s hs
    · rw [upd_other _ _ c] at hs
      obtain ⟨k1, k2, k3, k4⟩ := h.slot i hi s hs
      obtain ⟨e1, e2⟩ := h3 i hi c s hs
      exact ⟨k1, k2, e1.trans k3, ((k4.keep e2).mono hN).congr (hL i c)⟩
  · by_cases c : i = p
    · subst c
      rw [upd_same] at hs
      rw [upd_other _ _ (fun e => hij e.symm)] at ht
      exact h5 s hs j hj (fun e => hij e.symm) t ht
    · rw [upd_other _ _ c] at hs
      by_cases d : j = p
      · subst d
        rw [upd_same] at ht
        have := h5 t ht i hi c s hs
        exact ⟨fun e => this.1 e.symm, fun e => this.2 e.symm⟩
      · rw [upd_other _ _ d] at ht
        exact h.inj i j s t hi hj hs ht hij
theorem WMem.keep (h : WMem N w B hb wb lo cnt sl L) (hk : ∀ (k : Nat) (o : Obj), w.heap[k]? = some o → wm o = true → w'.heap[k]? = some o) : WMem N w' B hb wb lo cnt sl L := by
  refine ⟨h.bh, h.bw, hk _ _ h.hd rfl, hk _ _ h.row rfl, fun i hi s hs => ?_, h.inj⟩
  obtain ⟨k1, k2, k3, k4⟩ := h.slot i hi s hs
  obtain ⟨es, c, k5⟩ := k4.obj
  exact ⟨k1, k2, hk _ _ k3 rfl, k4.keep ((hk _ _ k5 rfl).trans k5.symm)⟩
theorem WMem.below (h : WMem N w B hb wb lo cnt sl L) (hB : Below w.heap.size w w') : WMem N w' B hb wb lo cnt sl L :=
  h.keep (fun k o ho _ => (hB.block k (Array.getElem?_eq_some_iff.1 ho).1).trans ho)
theorem upd_self (sl : Nat → Option Slt) (p : Nat) : upd sl p (sl p) = sl := by
  funext i
  unfold upd
  split
  · rename_i e; rw [e]
  · rfl
/-- The head is written. -/
theorem WMem.head (h : WMem N w B hb wb lo cnt sl L) {lo' cnt' : Int} (hg : w.grownBy w' (some hb)) (h1 : w'.heap[hb]? = some (.cells #[.slice (some ⟨wb, 0, none⟩) 4096 4096, .int .i64 lo', .int .u64 cnt'] 61 (0, 0))) : WMem N w' B hb wb lo' cnt' sl L := by
  have kk : ∀ (k : Nat) (o : Obj), w.heap[k]? = some o → k ≠ hb → w'.heap[k]? = some o := fun k o ho hne => (hg.block k (Array.getElem?_eq_some_iff.1 ho).1 (fun e => hne (by injection e))).trans ho
  refine ⟨h.bh, h.bw, h1, kk _ _ h.row (Ne.symm h.hw), fun i hi s hs => ?_, h.inj⟩
  obtain ⟨k1, k2, k3, k4⟩ := h.slot i hi s hs
  obtain ⟨n1, n2, n3, n4⟩ := h.hs hi hs
  obtain ⟨es, c, k5⟩ := k4.obj
  exact ⟨k1, k2, kk _ _ k3 n1, k4.keep ((kk _ _ k5 n3).trans k5.symm)⟩
/-- A slot's map is turned. -/
theorem WMem.map (h : WMem N w B hb wb lo cnt sl L) {N' p : Nat} (hp : p < 4096) {s : Slt} (hs : sl p = some s) (hg : w.grownBy w' (some s.m)) (hN : N ≤ N') {L' : Nat → Tk → Prop} (hm : MapAt N' w' s.m (L' p)) (hL : ∀ i, i ≠ p → ∀ y, L i y ↔ L' i y) : WMem N' w' B hb wb lo cnt sl L' := by
  have kk : ∀ (k : Nat) (o : Obj), w.heap[k]? = some o → k ≠ s.m → w'.heap[k]? = some o := fun k o ho hne => (hg.block k (Array.getElem?_eq_some_iff.1 ho).1 (fun e => hne (by injection e))).trans ho
  obtain ⟨n1, n2, n3, n4⟩ := h.hs hp hs
  have := h.turn (p := p) (lo' := lo) (cnt' := cnt) (L' := L') (sl p) hN (kk _ _ h.hd (Ne.symm n3)) (by rw [upd_self]; exact kk _ _ h.row (Ne.symm n4)) (fun i hi hip t ht => by
    obtain ⟨k1, k2, k3, k4⟩ := h.slot i hi t ht
    obtain ⟨es, c, k5⟩ := k4.obj
    have hj := h.inj i p t s hi hp ht hs hip
    exact ⟨(kk _ _ k3 (h.bm hi hp ht hs)).trans k3.symm, (kk _ _ k5 hj.2).trans k5.symm⟩) (fun t ht => by
    rw [hs] at ht
    injection ht with ht
    subst ht
    obtain ⟨k1, k2, k3, k4⟩ := h.slot p hp s hs
    exact ⟨k1, k2, kk _ _ k3 (h.bm hp hp hs hs), hm⟩) (fun t ht i hi hip u hu => by
    rw [hs] at ht
    injection ht with ht
    subst ht
    have := h.inj p i s u hp hi hs hu (Ne.symm hip)
    exact this) hL
  rwa [upd_self] at this
/-- A slot's lowest time is written. -/
theorem WMem.low (h : WMem N w B hb wb lo cnt sl L) {p : Nat} (hp : p < 4096) {s : Slt} (hs : sl p = some s) {z : Int} (hg : w.grownBy w' (some s.b)) (h1 : w'.heap[s.b]? = some (.cells #[.map (some s.m), .int .i64 z] 79 (0, 0))) : WMem N w' B hb wb lo cnt (upd sl p (some ⟨s.b, s.m, z⟩)) L := by
  have kk : ∀ (k : Nat) (o : Obj), w.heap[k]? = some o → k ≠ s.b → w'.heap[k]? = some o := fun k o ho hne => (hg.block k (Array.getElem?_eq_some_iff.1 ho).1 (fun e => hne (by injection e))).trans ho
  obtain ⟨n1, n2, n3, n4⟩ := h.hs hp hs
  refine h.turn (p := p) (some ⟨s.b, s.m, z⟩) (Nat.le_refl _) (kk _ _ h.hd (Ne.symm n1)) ?_ (fun i hi hip t ht => by
    obtain ⟨k1, k2, k3, k4⟩ := h.slot i hi t ht
    obtain ⟨es, c, k5⟩ := k4.obj
    have hj := h.inj i p t s hi hp ht hs hip
    exact ⟨(kk _ _ k3 hj.1).trans k3.symm, (kk _ _ k5 (Ne.symm (h.bm hp hi hs ht))).trans k5.symm⟩) (fun t ht => by
    injection ht with ht
    subst ht
    obtain ⟨k1, k2, k3, k4⟩ := h.slot p hp s hs
    obtain ⟨es, c, k5⟩ := k4.obj
    exact ⟨k1, k2, h1, k4.keep ((kk _ _ k5 (Ne.symm (h.bm hp hp hs hs))).trans k5.symm)⟩) (fun t ht i hi hip u hu => by
    injection ht with ht
    subst ht
    exact h.inj p i s u hp hi hs hu (Ne.symm hip)) (fun _ _ _ => Iff.rfl)
  have e : rowOf (upd sl p (some ⟨s.b, s.m, z⟩)) = rowOf sl := by
    have : ∀ i, ptrO (upd sl p (some ⟨s.b, s.m, z⟩) i) = ptrO (sl i) := fun i => by
      by_cases c : i = p
      · subst c; rw [upd_same, hs]; rfl
      · rw [upd_other _ _ c]
    unfold rowOf
    rw [funext this]
  rw [e]
  exact kk _ _ h.row (Ne.symm n2)
/-- A slot's place is written: nothing there any more, or a slot of new blocks. -/
theorem WMem.place (h : WMem N w B hb wb lo cnt sl L) {p : Nat} (hp : p < 4096) (x : Option Slt) (hg : w.grownBy w' (some wb)) (h1 : w'.heap[wb]? = some (.cells (rowOf (upd sl p x)) 76 (0, 0)))
    {L' : Nat → Tk → Prop} (hL : ∀ i, i ≠ p → ∀ y, L i y ↔ L' i y)
    (h4 : ∀ s, x = some s → B ≤ s.b ∧ B ≤ s.m ∧ w'.heap[s.b]? = some (.cells #[.map (some s.m), .int .i64 s.low] 79 (0, 0)) ∧ MapAt N w' s.m (L' p))
    (h5 : ∀ s, x = some s → ∀ i, i < 4096 → i ≠ p → ∀ t, sl i = some t → s.b ≠ t.b ∧ s.m ≠ t.m) : WMem N w' B hb wb lo cnt (upd sl p x) L' := by
  have kk : ∀ (k : Nat) (o : Obj), w.heap[k]? = some o → k ≠ wb → w'.heap[k]? = some o := fun k o ho hne => (hg.block k (Array.getElem?_eq_some_iff.1 ho).1 (fun e => hne (by injection e))).trans ho
  refine h.turn (p := p) x (Nat.le_refl _) (kk _ _ h.hd h.hw) h1 (fun i hi hip t ht => ?_) h4 h5 hL
  obtain ⟨k1, k2, k3, k4⟩ := h.slot i hi t ht
  obtain ⟨n1, n2, n3, n4⟩ := h.hs hi ht
  obtain ⟨es, c, k5⟩ := k4.obj
  exact ⟨(kk _ _ k3 n2).trans k3.symm, (kk _ _ k5 n4).trans k5.symm⟩
end
/-! ### NewHashWheel, Add -/
theorem made_row : madeCells (Value.cells (.pointer none)) (4096 * 1) = rowOf (fun _ => none) := by
  apply Array.ext_getElem?
  intro i
  by_cases hi : i < 4096
  · rw [rowOf_get _ i hi]
    unfold madeCells
    rw [Array.getElem?_map, Array.getElem?_range]
    simp only [hi, Nat.mul_one, if_true, Option.map_some, Value.cells, ptrO]
    congr 1
    have : (#[Value.pointer none] : Array Value).size = 1 := rfl
    rw [this, Nat.mod_one]
    rfl
  · have h1 : (rowOf (fun _ => none))[i]? = none := Array.getElem?_eq_none (by rw [rowOf_size]; omega)
    rw [h1, Array.getElem?_eq_none]
    rw [size_madeCells]
    omega
set_option maxRecDepth 100000 in
theorem new_calls (w : World) : Calls Tryd.prog 18 #[] w fun e w' => e = .returned (.pointer (some ⟨w.heap.size + 1, 0, none⟩)) ∧ WheelAt 0 w' w.heap.size (w.heap.size + 1) True [] ∧ Below w.heap.size w w' := by
  obtain ⟨i0, hi, hz0, hz1, hz2⟩ := info_parts (P := Tryd.prog) (e := 76) (z := .pointer none) (size := 1) (bytes := 8) (by kernel_rfl)
  have hr := run_make (P := Tryd.prog) w 59 76 i0 (.pointer none) Tryd.underlying59 hi hz0 .i64 .i64 4096 4096 (by decide) (by decide) (by rw [hz2]; decide) (by decide)
  obtain ⟨X, hX⟩ : ∃ X, X = rowOf (fun _ => none) := ⟨_, rfl⟩
  have eX : madeCells (Value.pointer none).cells (Int.toNat 4096 * i0.size) = X := by rw [hz1, hX]; exact made_row
  rw [eX] at hr
  have hr' : (Instr.makeSlice 59 (.int .i64 4096) (.int .i64 4096)).run Tryd.prog w = .ok (.slice (some ⟨w.heap.size, 0, none⟩) 4096 4096) (w.alloc (.cells X 76)) := hr
  have HX := Aside0.mk hX
  clear hi hz0 hz1 hz2 hr eX hX
  go_enter Tryd.func18, Tryd.ntmps18
  go_wp2_with fail
  go_ret
  have s1 : (w.alloc (.cells X 76)).heap.size = w.heap.size + 1 := by simp
  refine ⟨rfl, ⟨w.heap.size, mxT, fun _ => none, ⟨Nat.le_succ _, Nat.le_refl _, ?_, ?_, fun i _ s h => by simp at h, fun i j s t _ _ h => by simp at h⟩, ⟨fun y h => by simp at h, List.nodup_nil, by simp, Int.le_refl _, fun _ _ _ y h => by simp at h, fun i _ s h => by simp at h, fun _ => ⟨fun i _ s h => by simp at h, .inl ⟨rfl, rfl⟩⟩⟩⟩, below_alloc (below_alloc (Below.refl _ _) _) _⟩
  · have := heap_alloc_new (w.alloc (.cells X 76)) (.cells #[.slice (some ⟨w.heap.size, 0, none⟩) 4096 4096, .int .i64 mxT, .int .u64 0] 61 (0, 0))
    rw [s1] at this
    exact this
  · rw [← HX.out]
    exact (Below.heap_alloc _ _ _ (by rw [s1]; exact Nat.lt_succ_self _)).trans (heap_alloc_new w _)
def oldLow : Option Slt → Int
  | none => mxT
  | some s => s.low
set_option maxHeartbeats 16000000 in
set_option maxRecDepth 100000 in
theorem add_calls (N B hb wb : Nat) (lo cnt : Int) (sl : Nat → Option Slt) (L : Nat → Tk → Prop) (x e : Int) (w : World) (hx : wfU x) (he : 0 ≤ e ∧ e ≤ 1152921504606846976) (hW : WMem N w B hb wb lo cnt sl L) (hBw : B ≤ w.heap.size) (hN : N < 1000000)
    (hn : ∀ z, ¬ L (pos e) (x, z)) (hne : sl (pos e) = none → ∀ y, ¬ L (pos e) y) (hc : 0 ≤ cnt ∧ cnt < 1000000) :
    Calls Tryd.prog 26 #[.pointer (some ⟨hb, 0, none⟩), .int .u64 x, .int .i64 e] w fun en w' => en = .returned Value.nilIface ∧ ∃ s, s.low = (if e < oldLow (sl (pos e)) then e else oldLow (sl (pos e))) ∧
      WMem (N + 1) w' B hb wb (if e < oldLow (sl (pos e)) ∧ e < lo then e else lo) (cnt + 1) (upd sl (pos e) (some s)) (fun i y => L i y ∨ (i = pos e ∧ y = (x, e))) ∧ ChW B w w' := by
  obtain ⟨p, hp⟩ : ∃ p, p = pos e := ⟨_, rfl⟩
  have hp4 : p < 4096 := hp ▸ pos_lt e
  rw [← hp] at hn hne ⊢
  have hgp : ∀ w1 : World, Calls Tryd.prog 38 #[.pointer (some ⟨hb, 0, none⟩), .int .i64 e] w1 fun en w' => en = .returned (.int .i64 (p : Int)) ∧ w' = w1 := fun w1 => by rw [hp]; exact getPos_calls _ e he w1
  have c0 : w.cell? ⟨hb, 0, none⟩ = some (.slice (some ⟨wb, 0, none⟩) 4096 4096) := (cell_of_row w hb 0 _ _ _ hW.hd).trans rfl
  obtain ⟨q, hq⟩ : ∃ q, q = adO (sl p) := ⟨_, rfl⟩
  have cp : w.cell? ⟨wb, p, none⟩ = some (.pointer q) := (cell_of_row w wb p _ _ _ hW.row).trans (by rw [hq]; exact rowOf_get sl p hp4)
  have HQ := Aside0.mk hq
  clear hq
  have i1 := eq_true (show (p : Int) < 4096 by omega)
  have i2 := eq_true hp4
  have HW := Aside0.mk hW
  have HP := Aside0.mk (And.intro hx (And.intro he (And.intro hN (And.intro hn (And.intro hne (And.intro hc (And.intro hp hBw)))))))
  clear hx he hW hN hn hne hc hp hBw hp4
  obtain ⟨lw, hlw⟩ : ∃ z, z = (if e < oldLow (sl p) then e else oldLow (sl p)) := ⟨_, rfl⟩
  obtain ⟨lo2, hlo2⟩ : ∃ z, z = (if e < oldLow (sl p) ∧ e < lo then e else lo) := ⟨_, rfl⟩
  rw [← hlw, ← hlo2]
  have HLW := Aside0.mk (And.intro hlw hlo2)
  clear hlw hlo2
  have HG := Aside0.mk hgp
  clear hgp
  go_enter Tryd.func26, Tryd.ntmps26
  go_wp2_with fail
  refine (HG.out w).mono ?_
  rintro en w1 ⟨rfl, rfl⟩
  go_upto_if 20 with fail
  go_cut [20] from 21 (fun _ wx => ∃ s0 : Slt, Aside0 (s0.low = oldLow (sl p) ∧ WMem N wx B hb wb lo cnt (upd sl p (some s0)) L ∧ ChW B w1 wx))
  case first =>
    cases q with
    | some ad =>
      cases hsl : sl p with
      | none => rw [hsl] at HQ; exact absurd HQ.out (by simp [adO])
      | some s0 =>
      go_wp2_with fail
      go_meet
      refine ⟨s0, ⟨by rw [hsl, oldLow], ?_, ChW.refl _ _⟩⟩
      rw [← hsl, upd_self]
      exact HW.out
    | none =>
      cases hsl : sl p with
      | some s0 => rw [hsl] at HQ; exact absurd HQ.out (by simp [adO])
      | none =>
      have HS := Aside0.mk hsl
      clear hsl
      go_wp2_with fail
      refine start_ (n := 8) (S := fun w' => w'.cell? ⟨hb, 0, none⟩ = some (.slice (some ⟨wb, 0, none⟩) 4096 4096)) (ds := [7]) #[false, false, false, false, false, false, false, false] (by kernel_rfl) rfl rfl c0 (fun hHeld => ?_)
      refine pure_ (i := 0) (N := some 21) (v := ?_) (a' := ?_) #[true, false, false, false, false, false, false, false] rfl rfl (by kernel_rfl) (fun _ _ _ h => h) (Or.inl ⟨by rfl, ?_⟩) ?_ ?_
      rotate_left
      · intro w'
        go_simp
        with_reducible rfl
      rotate_left
      · simp only [Act.put, List.setIfInBounds_toArray, List.set_cons_zero, List.set_cons_succ, i64_w, i32_w]
        rfl
      refine pure_ (i := 1) (N := some 22) (v := ?_) (a' := ?_) #[true, true, false, false, false, false, false, false] rfl rfl (by kernel_rfl) (fun _ _ _ h => h) (Or.inl ⟨by rfl, ?_⟩) ?_ ?_
      rotate_left
      · intro w'
        go_simp
        with_reducible rfl
      rotate_left
      · simp only [Act.put, List.setIfInBounds_toArray, List.set_cons_zero, List.set_cons_succ, i64_w, i32_w]
        rfl
      refine pure_ (i := 2) (N := some 23) (v := ?_) (a' := ?_) #[true, true, true, false, false, false, false, false] rfl rfl (by kernel_rfl) (fun _ _ _ h => h) (Or.inl ⟨by rfl, ?_⟩) ?_ ?_
      rotate_left
      · intro w'
        go_simp
        with_reducible rfl
      rotate_left
      · simp only [Act.put, List.setIfInBounds_toArray, List.set_cons_zero, List.set_cons_succ, i64_w, i32_w]
        rfl
      refine take_ (i := 3) (N := some 24) (v := ?_) (a' := ?_) #[true, true, true, true, false, false, false, false] rfl rfl (by kernel_rfl) (fun _ _ _ h => h) (Or.inl ⟨by rfl, ?_⟩) hHeld ?_ ?_
      rotate_left
      · intro w' hS'
        go_simp
        with_reducible rfl
      rotate_left
      · simp only [Act.put, List.setIfInBounds_toArray, List.set_cons_zero, List.set_cons_succ, i64_w, i32_w]
        rfl
      refine pure_ (i := 4) (N := some 25) (v := ?_) (a' := ?_) #[true, true, true, true, true, false, false, false] rfl rfl (by kernel_rfl) (fun _ _ _ h => h) (Or.inl ⟨by rfl, ?_⟩) ?_ ?_
      rotate_left
      · intro w'
        go_simp
        with_reducible rfl
      rotate_left
      · simp only [Act.put, List.setIfInBounds_toArray, List.set_cons_zero, List.set_cons_succ, i64_w, i32_w]
        rfl
      refine one_ (i := 5) (N := some 26) #[true, true, true, true, true, true, false, false] rfl rfl (by kernel_rfl) (by decide) (fun K hK => ?_)
      refine goes_ Tryd.func39 (by kernel_rfl) rfl #[] (by rfl) rfl rfl (by simp only [List.map_toArray, List.map_nil]) ?_
      refine (newSlot_calls w1.drew).mono ?_
      rintro e w3 ⟨g, m, rfl, hg, hm, hgc, hmm, hb3⟩
      refine ⟨_, rfl, ?_⟩
      have hW3 := HW.out.below ((below_drew (Below.refl _ _)).trans hb3)
      have k3 : w3.cell? ⟨hb, 0, none⟩ = some (.slice (some ⟨wb, 0, none⟩) 4096 4096) := (cell_of_row w3 hb 0 _ _ _ hW3.hd).trans rfl
      have H3 := Aside0.mk (And.intro hg (And.intro hm (And.intro hgc (And.intro hmm (And.intro hb3 hW3)))))
      clear hg hm hgc hmm hb3
      refine hK.out _ _ k3 (fun hHeld => ?_)
      clear hK K
      refine norm_ (a' := ?_) ?_ ?_
      rotate_left
      · show Act.put _ (some 26) _ = _
        simp only [Act.put, List.setIfInBounds_toArray, List.set_cons_zero, List.set_cons_succ, i64_w, i32_w]
        rfl
      refine pure_ (i := 6) (N := some 27) (v := ?_) (a' := ?_) #[true, true, true, true, true, true, true, false] rfl rfl (by kernel_rfl) (fun _ _ _ h => h) (Or.inl ⟨by rfl, ?_⟩) ?_ ?_
      rotate_left
      · intro w'
        go_simp
        with_reducible rfl
      rotate_left
      · simp only [Act.put, List.setIfInBounds_toArray, List.set_cons_zero, List.set_cons_succ, i64_w, i32_w]
        rfl
      have f3 : w3.frozen? ⟨wb, p, none⟩ = false := Road.frozen_of_heap hW3.row
      have k3p : w3.cell? ⟨wb, p, none⟩ = some (.pointer (adO (sl p))) := (cell_of_row w3 wb p _ _ _ hW3.row).trans (rowOf_get sl p (of_eq_true i2))
      clear hW3
      refine last_ (i := 7) (N := none) #[true, true, true, true, true, true, true, true] rfl rfl (by kernel_rfl) (by decide) (fun K hK => ?_)
      refine skip_ (w1 := ?_) (by rfl) rfl ?_ ?_
      rotate_left
      · go_simp
        rfl
      refine hK.out _ _ ?_
      clear hK K
      refine done_ (by kernel_rfl) ?_
      go_wp2_with fail
      go_meet
      obtain ⟨hg, hm, hgc, hmm, hb3, hW3⟩ := H3.out
      have hB := HP.out.2.2.2.2.2.2.2
      have z1 : w1.drew.heap.size = w1.heap.size := rfl
      refine ⟨⟨g, m, mxT⟩, ⟨by rw [HS.out]; rfl, ?_, ?_⟩⟩
      · refine hW3.place (p := p) (of_eq_true i2) (some ⟨g, m, mxT⟩) (grown_setCell w3 wb p _) ?_ (fun _ _ _ => Iff.rfl) (fun s hs => ?_) (fun s hs i hi hip t ht => ?_)
        · rw [← rowOf_set]
          exact Road.setCell_same_heap p _ hW3.row
        · injection hs with hs
          subst hs
          have n1 : wb ≠ g := ne_obj hW3.row hgc (cells_ne (by decide))
          obtain ⟨es, cc, hmo⟩ := hmm.obj
          have n2 : wb ≠ m := ne_obj hW3.row hmo map_ne
          refine ⟨by show B ≤ g; omega, by show B ≤ m; omega, (Road.setCell_other_heap w3 p _ n1).trans hgc, ((hmm.keep (Road.setCell_other_heap w3 p _ n2)).mono (Nat.zero_le _)).congr (fun y => ⟨fun h => h.elim, fun h => HP.out.2.2.2.2.1 HS.out y h⟩)⟩
        · injection hs with hs
          subst hs
          obtain ⟨_, _, k3, k4⟩ := HW.out.slot i hi t ht
          obtain ⟨es, cc, k5⟩ := k4.obj
          have l1 := (Array.getElem?_eq_some_iff.1 k3).1
          have l2 := (Array.getElem?_eq_some_iff.1 k5).1
          exact ⟨by show g ≠ t.b; omega, by show m ≠ t.m; omega⟩
      · exact (ChW.of_below ((below_drew (Below.refl _ _)).trans hb3)).trans (ChW.set hW3.bw hW3.row rfl (grown_setCell w3 wb p _))
  case rest =>
    obtain ⟨s0, H0⟩ := hcut
    obtain ⟨D, hown, hD⟩ := (H0.out.2.1.slot p (of_eq_true i2) s0 (upd_same _ _ _)).2.2.2
    have hsc := (H0.out.2.1.slot p (of_eq_true i2) s0 (upd_same _ _ _)).2.2.1
    have hwx : (Lit.int .u64 x).wf = true := wf_of_U HP.out.1
    have hhas : Maps.has D (.int .u64 x) = false := by
      cases hh : Maps.has D (.int .u64 x) with
      | false => rfl
      | true =>
        obtain ⟨z, hz⟩ := (hD.1 x HP.out.1).1 hh
        exact absurd hz (HP.out.2.2.2.1 z)
    have k0 : wc.cell? ⟨hb, 0, none⟩ = some (.slice (some ⟨wb, 0, none⟩) 4096 4096) := (cell_of_row wc hb 0 _ _ _ H0.out.2.1.hd).trans rfl
    have k2 : wc.cell? ⟨hb, 2, none⟩ = some (.int .u64 cnt) := (cell_of_row wc hb 2 _ _ _ H0.out.2.1.hd).trans rfl
    have kp : wc.cell? ⟨wb, p, none⟩ = some (.pointer (some ⟨s0.b, 0, none⟩)) := (cell_of_row wc wb p _ _ _ H0.out.2.1.row).trans ((rowOf_get _ p (of_eq_true i2)).trans (by rw [upd_same]; rfl))
    have ks : wc.cell? ⟨s0.b, 0, none⟩ = some (.map (some s0.m)) := (cell_of_row wc s0.b 0 _ _ _ hsc).trans rfl
    have f2 : wc.frozen? ⟨hb, 2, none⟩ = false := Road.frozen_of_heap H0.out.2.1.hd
    have ec : IntKind.u64.wrap (cnt + 1) = cnt + 1 := Road.wu64 _ _ rfl (by have := HP.out.2.2.2.2.2.1; omega) (by have := HP.out.2.2.2.2.2.1; omega)
    have zeroE : ∀ w, (zeroValue 2).run Tryd.prog w = .ok (.int .i64 0) w := fun w => by kernel_rfl
    have HD := Aside0.mk (And.intro hD hsc)
    clear hD hsc c0 cp
    go_upto_region 7 with (first | (at_lookup; refine wpList_lookup_own_ok_int _ rfl _ _ 77 rfl 32 2 .i64 lawU Tryd.underlying77 Tryd.underlying2 (zeroE _) s0.m N D rfl hown _ _ rfl (keyOf_int_mk Tryd.underlying32 hwx) ?_; intro c hat hwc) | go_in)
    obtain ⟨W5, hW5⟩ : ∃ W5, W5 = wc.setCell ⟨hb, 2, none⟩ (.int .u64 (cnt + 1)) := ⟨_, rfl⟩
    rw [← hW5]
    have m5 : WMem N W5 B hb wb lo (cnt + 1) (upd sl p (some s0)) L := by
      rw [hW5]
      exact H0.out.2.1.head (grown_setCell wc hb 2 _) (Road.setCell_same_heap 2 _ H0.out.2.1.hd)
    have ch5 : ChW B w1 W5 := by
      rw [hW5]
      exact H0.out.2.2.trans (ChW.set H0.out.2.1.bh H0.out.2.1.hd rfl (grown_setCell wc hb 2 _))
    have hown5 : mapD N W5 s0.m D := mapD_keep hown (by
      obtain ⟨es, cc, k5⟩ := hown
      rw [hW5]
      exact Road.setCell_other_heap wc 2 _ (ne_obj H0.out.2.1.hd k5.1 map_ne))
    have hsc5 := (m5.slot p (of_eq_true i2) s0 (upd_same _ _ _)).2.2.1
    have k0 : W5.cell? ⟨hb, 0, none⟩ = some (.slice (some ⟨wb, 0, none⟩) 4096 4096) := (cell_of_row W5 hb 0 _ _ _ m5.hd).trans rfl
    have kp : W5.cell? ⟨wb, p, none⟩ = some (.pointer (some ⟨s0.b, 0, none⟩)) := (cell_of_row W5 wb p _ _ _ m5.row).trans ((rowOf_get _ p (of_eq_true i2)).trans (by rw [upd_same]; rfl))
    have ks : W5.cell? ⟨s0.b, 0, none⟩ = some (.map (some s0.m)) := (cell_of_row W5 s0.b 0 _ _ _ hsc5).trans rfl
    have hwe : (Lit.int .i64 e).wf = true := WalkArith.wf_i64 (by have := HP.out.2.1; omega)
    have H5 := Aside0.mk (And.intro m5 (And.intro ch5 (And.intro hsc5 (And.intro hW5 HD.out.1))))
    have hN1 : N < maxLen := by have := HP.out.2.2.1; unfold maxLen; omega
    clear m5 ch5 hsc5 hW5 k2 f2 ec hown hhas
    go_upto_region 8 with (first | (at_mapUpdate; refine wpList_mapUpdate_own _ rfl _ _ _ 77 rfl 32 2 lawU Tryd.underlying77 _ s0.m N D rfl hown5 hN1 _ _ _ rfl rfl (keyOf_int_mk Tryd.underlying32 hwx) _ [] (plainElem_int Tryd.underlying2 hwe) ?_; intro w6 hown6 hg6) | go_in)
    have m6 : WMem (N + 1) w6 B hb wb lo (cnt + 1) (upd sl p (some s0)) (fun i y => L i y ∨ (i = p ∧ y = (x, e))) :=
      H5.out.1.map (of_eq_true i2) (upd_same _ _ _) hg6 (Nat.le_succ _) ⟨_, hown6, (H5.out.2.2.2.2.put hown5.isMap HP.out.1 HP.out.2.2.2.1).congr (fun y => ⟨fun h => h.elim .inl (fun h => .inr ⟨rfl, h⟩), fun h => h.elim .inl (fun h => .inr h.2)⟩)⟩
        (fun i hi y => ⟨.inl, fun h => h.elim id (fun h => absurd h.1 hi)⟩)
    have ch6 : ChW B w1 w6 := by
      obtain ⟨es, cc, k5⟩ := hown5
      exact H5.out.2.1.trans (ChW.set (H5.out.1.slot p (of_eq_true i2) s0 (upd_same _ _ _)).2.1 k5.1 rfl hg6)
    have hsc6 := (m6.slot p (of_eq_true i2) s0 (upd_same _ _ _)).2.2.1
    have k0 : w6.cell? ⟨hb, 0, none⟩ = some (.slice (some ⟨wb, 0, none⟩) 4096 4096) := (cell_of_row w6 hb 0 _ _ _ m6.hd).trans rfl
    have kp : w6.cell? ⟨wb, p, none⟩ = some (.pointer (some ⟨s0.b, 0, none⟩)) := (cell_of_row w6 wb p _ _ _ m6.row).trans ((rowOf_get _ p (of_eq_true i2)).trans (by rw [upd_same]; rfl))
    have ks : w6.cell? ⟨s0.b, 1, none⟩ = some (.int .i64 s0.low) := (cell_of_row w6 s0.b 1 _ _ _ hsc6).trans rfl
    have fs : w6.frozen? ⟨s0.b, 1, none⟩ = false := Road.frozen_of_heap hsc6
    have H6 := Aside0.mk (And.intro m6 (And.intro ch6 hsc6))
    have HLO := Aside0.mk H0.out.1
    clear m6 ch6 hsc6 hown5 hown6 hg6 hN1 hwe hwx zeroE
    by_cases hlt : e < s0.low
    · have q1 := eq_true hlt
      have q2 : decide (e < s0.low) = true := decide_eq_true hlt
      have HLT := Aside0.mk hlt
      clear hlt
      go_upto_region 10 with fail
      obtain ⟨W7, hW7⟩ : ∃ W7, W7 = w6.setCell ⟨s0.b, 1, none⟩ (.int .i64 e) := ⟨_, rfl⟩
      rw [← hW7]
      have m7 : WMem (N + 1) W7 B hb wb lo (cnt + 1) (upd sl p (some ⟨s0.b, s0.m, e⟩)) (fun i y => L i y ∨ (i = p ∧ y = (x, e))) := by
        have := H6.out.1.low (of_eq_true i2) (upd_same _ _ _) (z := e) (grown_setCell w6 s0.b 1 _) (Road.setCell_same_heap 1 _ H6.out.2.2)
        rw [hW7]
        rwa [upd_upd] at this
      have ch7 : ChW B w1 W7 := by
        rw [hW7]
        exact H6.out.2.1.trans (ChW.set (H6.out.1.slot p (of_eq_true i2) s0 (upd_same _ _ _)).1 H6.out.2.2 rfl (grown_setCell w6 s0.b 1 _))
      have k1 : W7.cell? ⟨hb, 1, none⟩ = some (.int .i64 lo) := (cell_of_row W7 hb 1 _ _ _ m7.hd).trans rfl
      have f1 : W7.frozen? ⟨hb, 1, none⟩ = false := Road.frozen_of_heap m7.hd
      have H7 := Aside0.mk (And.intro m7 ch7)
      clear m7 ch7 hW7 k0 kp ks fs
      by_cases hl2 : e < lo
      · have q3 := eq_true hl2
        have q4 : decide (e < lo) = true := decide_eq_true hl2
        have HL2 := Aside0.mk hl2
        clear hl2
        go_wp2_with fail
        go_ret
        refine ⟨rfl, ⟨s0.b, s0.m, e⟩, ?_, ?_, H7.out.2.trans (ChW.set H7.out.1.bh H7.out.1.hd rfl (grown_setCell W7 hb 1 _))⟩
        · rw [HLW.out.1, ← HLO.out, if_pos HLT.out]
        · rw [HLW.out.2, ← HLO.out, if_pos ⟨HLT.out, HL2.out⟩]
          exact H7.out.1.head (grown_setCell W7 hb 1 _) (Road.setCell_same_heap 1 _ H7.out.1.hd)
      · have q3 := eq_false hl2
        have q4 : decide (e < lo) = false := decide_eq_false hl2
        have HL2 := Aside0.mk hl2
        clear hl2
        go_wp2_with fail
        go_ret
        refine ⟨rfl, ⟨s0.b, s0.m, e⟩, ?_, ?_, H7.out.2⟩
        · rw [HLW.out.1, ← HLO.out, if_pos HLT.out]
        · rw [HLW.out.2, ← HLO.out, if_neg (fun h => Int.not_lt.2 HL2.out h.2)]
          exact H7.out.1
    · have q1 := eq_false hlt
      have q2 : decide (e < s0.low) = false := decide_eq_false hlt
      have HLT := Aside0.mk hlt
      clear hlt
      go_wp2_with fail
      go_ret
      refine ⟨rfl, s0, ?_, ?_, H6.out.2.1⟩
      · rw [HLW.out.1, ← HLO.out, if_neg (Int.not_lt.2 HLT.out)]
      · rw [HLW.out.2, ← HLO.out, if_neg (fun h => Int.not_lt.2 HLT.out h.1)]
        exact H6.out.1
/-! ### Remove, Update -/
/-- The error's variable holds something. -/
structure WLaid (w : World) : Prop where
  a : ∃ t v, w.cell? ⟨4, 0, none⟩ = some (.iface t v)
theorem wl_lt {w : World} {a : Addr} {v : Value} (h : w.cell? a = some v) : a.block < w.heap.size := by
  unfold World.cell? at h
  rcases Nat.lt_or_ge a.block w.heap.size with c | c
  · exact c
  · rw [Array.getElem?_eq_none c] at h
    exact absurd h (by simp)
theorem cell_same {w w' : World} {k : Nat} (h : w'.heap[k]? = w.heap[k]?) (j : Nat) : w'.cell? ⟨k, j, none⟩ = w.cell? ⟨k, j, none⟩ := by
  unfold World.cell?
  rw [h]
theorem WLaid.lt {w : World} (h : WLaid w) : 4 < w.heap.size := by
  obtain ⟨t, v, ha⟩ := h.a
  exact wl_lt ha
theorem WLaid.keep {w0 w : World} (h : WLaid w0) (hb : w.heap[4]? = w0.heap[4]?) : WLaid w := by
  obtain ⟨t, v, ha⟩ := h.a
  exact ⟨t, v, (cell_same hb 0).trans ha⟩
theorem WLaid.below {w0 w : World} (h : WLaid w0) (hb : Below w0.heap.size w0 w) : WLaid w := h.keep (hb.block _ h.lt)
def Err1 (v : Value) : Prop := ∃ t u, v = .iface t u
set_option maxHeartbeats 16000000 in
set_option maxRecDepth 100000 in
theorem remove_miss (N B hb wb : Nat) (lo cnt : Int) (sl : Nat → Option Slt) (L : Nat → Tk → Prop) (x e : Int) (w : World) (hx : wfU x) (he : 0 ≤ e ∧ e ≤ 1152921504606846976) (hW : WMem N w B hb wb lo cnt sl L) (hE : WLaid w)
    (hn : ∀ s, sl (pos e) = some s → ∀ z, ¬ L (pos e) (x, z)) :
    Calls Tryd.prog 27 #[.pointer (some ⟨hb, 0, none⟩), .int .u64 x, .int .i64 e] w fun en w' => ∃ v, en = .returned v ∧ Err1 v ∧ w' = w := by
  obtain ⟨p, hp⟩ : ∃ p, p = pos e := ⟨_, rfl⟩
  have hp4 : p < 4096 := hp ▸ pos_lt e
  rw [← hp] at hn
  have hgp : ∀ w1 : World, Calls Tryd.prog 38 #[.pointer (some ⟨hb, 0, none⟩), .int .i64 e] w1 fun en w' => en = .returned (.int .i64 (p : Int)) ∧ w' = w1 := fun w1 => by rw [hp]; exact getPos_calls _ e he w1
  have c0 : w.cell? ⟨hb, 0, none⟩ = some (.slice (some ⟨wb, 0, none⟩) 4096 4096) := (cell_of_row w hb 0 _ _ _ hW.hd).trans rfl
  obtain ⟨et, ev, ce⟩ := hE.a
  have i1 := eq_true (show (p : Int) < 4096 by omega)
  have i2 := eq_true hp4
  have hwx : (Lit.int .u64 x).wf = true := wf_of_U hx
  have zeroE : ∀ w, (zeroValue 2).run Tryd.prog w = .ok (.int .i64 0) w := fun w => by kernel_rfl
  have HG := Aside0.mk hgp
  clear hgp hp
  cases hsl : sl p with
  | none =>
    have cp : w.cell? ⟨wb, p, none⟩ = some (.pointer none) := (cell_of_row w wb p _ _ _ hW.row).trans ((rowOf_get sl p hp4).trans (by rw [hsl]; rfl))
    clear hW hn hx he hE hsl hp4
    go_enter Tryd.func27, Tryd.ntmps27
    go_wp2_with fail
    refine (HG.out w).mono ?_
    rintro en w1 ⟨rfl, rfl⟩
    go_wp2_with fail
    go_ret
    exact ⟨_, rfl, ⟨_, _, rfl⟩, rfl⟩
  | some s0 =>
    have cp : w.cell? ⟨wb, p, none⟩ = some (.pointer (some ⟨s0.b, 0, none⟩)) := (cell_of_row w wb p _ _ _ hW.row).trans ((rowOf_get sl p hp4).trans (by rw [hsl]; rfl))
    obtain ⟨D, hown, hD⟩ := (hW.slot p hp4 s0 hsl).2.2.2
    have hsc := (hW.slot p hp4 s0 hsl).2.2.1
    have ks : w.cell? ⟨s0.b, 0, none⟩ = some (.map (some s0.m)) := (cell_of_row w s0.b 0 _ _ _ hsc).trans rfl
    have hhas : Maps.has D (.int .u64 x) = false := by
      cases hh : Maps.has D (.int .u64 x) with
      | false => rfl
      | true =>
        obtain ⟨z, hz⟩ := (hD.1 x hx).1 hh
        exact absurd hz (hn s0 hsl z)
    clear hW hn hx he hE hsl hp4 hD hsc
    go_enter Tryd.func27, Tryd.ntmps27
    go_wp2_with fail
    refine (HG.out w).mono ?_
    rintro en w1 ⟨rfl, rfl⟩
    go_wp2_with (first | (at_lookup; refine wpList_lookup_own_ok_int _ rfl _ _ 77 rfl 32 2 .i64 lawU Tryd.underlying77 Tryd.underlying2 (zeroE _) s0.m N D rfl hown _ _ rfl (keyOf_int_mk Tryd.underlying32 hwx) ?_; intro c hat hwc) | go_in)
    go_ret
    exact ⟨_, rfl, ⟨_, _, rfl⟩, rfl⟩
def RemPost (N B hb wb : Nat) (lo cnt : Int) (sl : Nat → Option Slt) (L : Nat → Tk → Prop) (p : Nat) (x : Int) (w w' : World) : Prop := ∃ o, ((o = none ∧ ∀ y, ¬ (L p y ∧ y.1 ≠ x)) ∨ o = sl p) ∧
  WMem N w' B hb wb lo (cnt - 1) (upd sl p o) (fun i y => L i y ∧ ¬ (i = p ∧ y.1 = x)) ∧ ChW B w w'
set_option maxHeartbeats 16000000 in
set_option maxRecDepth 100000 in
theorem remove_hit (N B hb wb : Nat) (lo cnt : Int) (sl : Nat → Option Slt) (L : Nat → Tk → Prop) (x e z : Int) (s0 : Slt) (w : World) (hx : wfU x) (he : 0 ≤ e ∧ e ≤ 1152921504606846976) (hW : WMem N w B hb wb lo cnt sl L)
    (hs : sl (pos e) = some s0) (hz : L (pos e) (x, z)) (hc : 1 ≤ cnt ∧ cnt ≤ 1000000) :
    Calls Tryd.prog 27 #[.pointer (some ⟨hb, 0, none⟩), .int .u64 x, .int .i64 e] w fun en w' => en = .returned Value.nilIface ∧ RemPost N B hb wb lo cnt sl L (pos e) x w w' := by
  obtain ⟨p, hp⟩ : ∃ p, p = pos e := ⟨_, rfl⟩
  have hp4 : p < 4096 := hp ▸ pos_lt e
  rw [← hp] at hs hz ⊢
  have hgp : ∀ w1 : World, Calls Tryd.prog 38 #[.pointer (some ⟨hb, 0, none⟩), .int .i64 e] w1 fun en w' => en = .returned (.int .i64 (p : Int)) ∧ w' = w1 := fun w1 => by rw [hp]; exact getPos_calls _ e he w1
  have c0 : w.cell? ⟨hb, 0, none⟩ = some (.slice (some ⟨wb, 0, none⟩) 4096 4096) := (cell_of_row w hb 0 _ _ _ hW.hd).trans rfl
  have i1 := eq_true (show (p : Int) < 4096 by omega)
  have i2 := eq_true hp4
  have hwx : (Lit.int .u64 x).wf = true := wf_of_U hx
  have zeroE : ∀ w, (zeroValue 2).run Tryd.prog w = .ok (.int .i64 0) w := fun w => by kernel_rfl
  have cp : w.cell? ⟨wb, p, none⟩ = some (.pointer (some ⟨s0.b, 0, none⟩)) := (cell_of_row w wb p _ _ _ hW.row).trans ((rowOf_get sl p hp4).trans (by rw [hs]; rfl))
  obtain ⟨D, hown, hD⟩ := (hW.slot p hp4 s0 hs).2.2.2
  have hsc := (hW.slot p hp4 s0 hs).2.2.1
  have ks : w.cell? ⟨s0.b, 0, none⟩ = some (.map (some s0.m)) := (cell_of_row w s0.b 0 _ _ _ hsc).trans rfl
  have hhas : Maps.has D (.int .u64 x) = true := (hD.1 x hx).2 ⟨z, hz⟩
  have HW := Aside0.mk (And.intro hW (And.intro hs (And.intro hD hc)))
  have HG := Aside0.mk hgp
  clear hgp hp hW hs hD hc hx he hp4 hz hsc
  go_enter Tryd.func27, Tryd.ntmps27
  go_wp2_with fail
  refine (HG.out w).mono ?_
  rintro en w1 ⟨rfl, rfl⟩
  go_upto_region 9 with (first | (at_lookup; refine wpList_lookup_own_ok_int _ rfl _ _ 77 rfl 32 2 .i64 lawU Tryd.underlying77 Tryd.underlying2 (zeroE _) s0.m N D rfl hown _ _ rfl (keyOf_int_mk Tryd.underlying32 hwx) ?_; intro c hat hwc) | (at_delete; refine wpList_delete_own _ rfl _ _ 77 32 rfl 2 lawU Tryd.underlying77 _ s0.m N D rfl hown _ _ rfl (keyOf_int_mk Tryd.underlying32 hwx) ?_; intro w6 hown6 hturn6) | go_in)
  obtain ⟨hW, hs, hD, hc⟩ := HW.out
  obtain ⟨D1, hD1⟩ : ∃ D1, D1 = D.del (.int .u64 x) := ⟨_, rfl⟩
  rw [← hD1] at hown6
  have hL1 : MapIs D1 (fun y => L p y ∧ ¬ (p = p ∧ y.1 = x)) := by
    rw [hD1]
    exact (hD.del x).congr (fun y => ⟨fun h => ⟨h.1, fun q => h.2 q.2⟩, fun h => ⟨h.1, fun q => h.2 ⟨rfl, q⟩⟩⟩)
  have m6 : WMem N w6 B hb wb lo cnt sl (fun i y => L i y ∧ ¬ (i = p ∧ y.1 = x)) :=
    hW.map (of_eq_true i2) hs hturn6.grown (Nat.le_refl _) ⟨_, hown6, hL1⟩ (fun i hi y => ⟨fun h => ⟨h, fun q => hi q.1⟩, fun h => h.1⟩)
  have ch6 : ChW B w1 w6 := by
    obtain ⟨es, cc, k5⟩ := hown
    exact ChW.set (hW.slot p (of_eq_true i2) s0 hs).2.1 k5.1 rfl hturn6.grown
  have k2 : w6.cell? ⟨hb, 2, none⟩ = some (.int .u64 cnt) := (cell_of_row w6 hb 2 _ _ _ m6.hd).trans rfl
  have f2 : w6.frozen? ⟨hb, 2, none⟩ = false := Road.frozen_of_heap m6.hd
  have ec : IntKind.u64.wrap (cnt - 1) = cnt - 1 := Road.wu64 _ _ rfl (by omega) (by omega)
  have H6 := Aside0.mk (And.intro m6 (And.intro ch6 (And.intro hown6 hL1)))
  have HS := Aside0.mk hs
  clear hW hs hD hc m6 ch6 hown6 hL1 hD1 hown hhas hturn6 HW c0 cp ks zeroE hwx HG
  go_upto_region 10 with fail
  obtain ⟨W7, hW7⟩ : ∃ W7, W7 = w6.setCell ⟨hb, 2, none⟩ (.int .u64 (cnt - 1)) := ⟨_, rfl⟩
  rw [← hW7]
  have m7 : WMem N W7 B hb wb lo (cnt - 1) sl (fun i y => L i y ∧ ¬ (i = p ∧ y.1 = x)) := by
    rw [hW7]
    exact H6.out.1.head (grown_setCell w6 hb 2 _) (Road.setCell_same_heap 2 _ H6.out.1.hd)
  have ch7 : ChW B w1 W7 := by
    rw [hW7]
    exact H6.out.2.1.trans (ChW.set H6.out.1.bh H6.out.1.hd rfl (grown_setCell w6 hb 2 _))
  have hown7 : mapD N W7 s0.m D1 := mapD_keep H6.out.2.2.1 (by
    obtain ⟨es, cc, k5⟩ := H6.out.2.2.1
    rw [hW7]
    exact Road.setCell_other_heap w6 2 _ (ne_obj H6.out.1.hd k5.1 map_ne))
  have hsc := (m7.slot p (of_eq_true i2) s0 HS.out).2.2.1
  have ks : W7.cell? ⟨s0.b, 0, none⟩ = some (.map (some s0.m)) := (cell_of_row W7 s0.b 0 _ _ _ hsc).trans rfl
  have k0 : W7.cell? ⟨hb, 0, none⟩ = some (.slice (some ⟨wb, 0, none⟩) 4096 4096) := (cell_of_row W7 hb 0 _ _ _ m7.hd).trans rfl
  have kp : W7.cell? ⟨wb, p, none⟩ = some (.pointer (some ⟨s0.b, 0, none⟩)) := (cell_of_row W7 wb p _ _ _ m7.row).trans ((rowOf_get _ p (of_eq_true i2)).trans (by rw [HS.out]; rfl))
  have fp : W7.frozen? ⟨wb, p, none⟩ = false := Road.frozen_of_heap m7.row
  have hsz := mapD_size hown7 H6.out.2.2.2
  have H7 := Aside0.mk (And.intro m7 (And.intro ch7 (And.intro hsc hsz)))
  clear m7 ch7 hsc hsz hW7 k2 f2 ec
  by_cases h0 : Maps.size D1 = 0
  · have q1 : (((Maps.size D1 : Nat) : Int) == 0) = true := by rw [h0]; rfl
    have q2 := eq_true h0
    have q3 := eq_true (show ((Maps.size D1 : Nat) : Int) = 0 by omega)
    have H0 := Aside0.mk h0
    clear h0
    go_wp2_with (first | (at_len; refine wpList_len_own _ rfl _ 77 rfl 32 2 Tryd.underlying77 _ s0.m N D1 rfl hown7 ?_) | go_in)
    go_ret
    have hn := H7.out.2.2.2.1 H0.out
    refine ⟨rfl, none, .inl ⟨rfl, fun y h => hn y ⟨h.1, fun q => h.2 q.2⟩⟩, ?_, H7.out.2.1.trans (ChW.set H7.out.1.bw H7.out.1.row rfl (grown_setCell W7 wb p _))⟩
    refine H7.out.1.place (p := p) (of_eq_true i2) none (grown_setCell W7 wb p _) ?_ (fun _ _ _ => Iff.rfl) (fun s h => by cases h) (fun s h => by cases h)
    rw [← rowOf_set]
    exact Road.setCell_same_heap p _ H7.out.1.row
  · have q1 : (((Maps.size D1 : Nat) : Int) == 0) = false := beq_eq_false_iff_ne.2 (by omega)
    have q2 := eq_false h0
    have q3 := eq_false (show ¬ ((Maps.size D1 : Nat) : Int) = 0 by omega)
    clear h0
    go_wp2_with (first | (at_len; refine wpList_len_own _ rfl _ 77 rfl 32 2 Tryd.underlying77 _ s0.m N D1 rfl hown7 ?_) | go_in)
    go_ret
    refine ⟨rfl, sl p, .inr rfl, ?_, H7.out.2.1⟩
    rw [upd_self]
    exact H7.out.1
/-! ### what the turns come to -/
theorem WheelAt.ex_mono {N B hb : Nat} {w : World} {ex ex' : Prop} {l : List Tk} (h : WheelAt N w B hb ex l) (he : ex' → ex) : WheelAt N w B hb ex' l := by
  obtain ⟨wb, lo, sl, hM, hL⟩ := h
  exact ⟨wb, lo, sl, hM, ⟨hL.all, hL.nd, hL.len, hL.loM, hL.none, hL.low, fun q => hL.att (he q)⟩⟩
theorem WheelAt.mono {N N' B hb : Nat} {w : World} {ex : Prop} {l : List Tk} (h : WheelAt N w B hb ex l) (hN : N ≤ N') : WheelAt N' w B hb ex l := by
  obtain ⟨wb, lo, sl, hM, hL⟩ := h
  refine ⟨wb, lo, sl, ⟨hM.bh, hM.bw, hM.hd, hM.row, fun i hi s hs => ?_, hM.inj⟩, hL⟩
  obtain ⟨k1, k2, k3, k4⟩ := hM.slot i hi s hs
  exact ⟨k1, k2, k3, k4.mono hN⟩
theorem WMem.congr {N B hb wb : Nat} {w : World} {lo cnt : Int} {sl : Nat → Option Slt} {L L' : Nat → Tk → Prop} (h : WMem N w B hb wb lo cnt sl L) (e : ∀ i y, L i y ↔ L' i y) : WMem N w B hb wb lo cnt sl L' :=
  ⟨h.bh, h.bw, h.hd, h.row, fun i hi s hs => by
    obtain ⟨k1, k2, k3, k4⟩ := h.slot i hi s hs
    exact ⟨k1, k2, k3, k4.congr (e i)⟩, h.inj⟩
theorem WheelAt.perm {N B hb : Nat} {w : World} {ex : Prop} {l l' : List Tk} (h : WheelAt N w B hb ex l) (hp : l.Perm l') : WheelAt N w B hb ex l' := by
  obtain ⟨wb, lo, sl, hM, hL⟩ := h
  have m : ∀ y, y ∈ l ↔ y ∈ l' := fun y => hp.mem_iff
  refine ⟨wb, lo, sl, ?_, ⟨fun y hy => hL.all y ((m y).2 hy), (hp.map _).nodup_iff.1 hL.nd, by rw [← hp.length_eq]; exact hL.len, hL.loM, fun i hi hs y hy => hL.none i hi hs y ((m y).2 hy), fun i hi s hs => ?_, fun q => ?_⟩⟩
  · rw [← hp.length_eq]
    exact hM.congr (fun i y => by show (y ∈ l ∧ pos y.2 = i) ↔ (y ∈ l' ∧ pos y.2 = i); rw [m y])
  · obtain ⟨h1, h2, h3⟩ := hL.low i hi s hs
    exact ⟨h1, h2, fun y hy => h3 y ((m y).2 hy)⟩
  · obtain ⟨h1, h2⟩ := hL.att q
    refine ⟨fun i hi s hs => ?_, ?_⟩
    · obtain ⟨y, hy, r⟩ := h1 i hi s hs
      exact ⟨y, (m y).1 hy, r⟩
    · rcases h2 with ⟨rfl, e⟩ | ⟨y, hy, e⟩
      · exact .inl ⟨List.Perm.eq_nil hp.symm, e⟩
      · exact .inr ⟨y, (m y).1 hy, e⟩
theorem WheelAt.keep {N B hb : Nat} {w w' : World} {ex : Prop} {l : List Tk} (h : WheelAt N w B hb ex l) (hk : ∀ (k : Nat) (o : Obj), w.heap[k]? = some o → wm o = true → w'.heap[k]? = some o) : WheelAt N w' B hb ex l := by
  obtain ⟨wb, lo, sl, hM, hL⟩ := h
  exact ⟨wb, lo, sl, hM.keep hk, hL⟩
theorem key_one {l : List Tk} (h : (l.map (·.1)).Nodup) {x a b : Int} (ha : (x, a) ∈ l) (hb : (x, b) ∈ l) : a = b := by
  induction l with
  | nil => simp at ha
  | cons y l ih =>
    rw [List.map_cons, List.nodup_cons] at h
    rcases List.mem_cons.1 ha with ea | ha
    · rcases List.mem_cons.1 hb with eb | hb
      · rw [← ea] at eb
        injection eb with _ eb
        exact eb.symm
      · exact absurd (List.mem_map.2 ⟨_, hb, by rw [← ea]⟩) h.1
    · rcases List.mem_cons.1 hb with eb | hb
      · exact absurd (List.mem_map.2 ⟨_, ha, by rw [← eb]⟩) h.1
      · exact ih h.2 ha hb
theorem nodup_of_keys {l : List Tk} (h : (l.map (·.1)).Nodup) : l.Nodup := by
  induction l with
  | nil => exact List.nodup_nil
  | cons y l ih =>
    rw [List.map_cons, List.nodup_cons] at h
    exact List.nodup_cons.2 ⟨fun hm => h.1 (List.mem_map.2 ⟨y, hm, rfl⟩), ih h.2⟩
theorem WLog.add {lo lo' : Int} {sl : Nat → Option Slt} {l : List Tk} {ex : Prop} (h : WLog lo sl l ex) {x e : Int} {s : Slt} (hx : wfU x) (he : 0 ≤ e ∧ e ≤ 1152921504606846976) (hf : ∀ z, (x, z) ∉ l) (hl : l.length < 1000000)
    (hs : s.low = (if e < oldLow (sl (pos e)) then e else oldLow (sl (pos e)))) (hlo : lo' = (if e < oldLow (sl (pos e)) ∧ e < lo then e else lo)) : WLog lo' (upd sl (pos e) (some s)) ((x, e) :: l) ex := by
  obtain ⟨p, hp⟩ : ∃ p, p = pos e := ⟨_, rfl⟩
  have hp4 : p < 4096 := hp ▸ pos_lt e
  rw [← hp] at hs hlo ⊢
  have hmx : mxT = 9223372036854775807 := rfl
  have hloM := h.loM
  obtain ⟨ol, hol⟩ : ∃ ol, ol = oldLow (sl p) := ⟨_, rfl⟩
  rw [← hol] at hs hlo
  have o1 : sl p = Option.none → ol = mxT := fun q => by rw [hol, q]; rfl
  have o2 : ∀ s0, sl p = some s0 → ol = s0.low := fun s0 q => by rw [hol, q]; rfl
  have o3 : lo ≤ ol ∧ ol ≤ mxT := by
    cases hsl : sl p with
    | none => rw [o1 hsl]; exact ⟨hloM, Int.le_refl _⟩
    | some s0 => rw [o2 s0 hsl]; exact ⟨(h.low p hp4 s0 hsl).1, (h.low p hp4 s0 hsl).2.1⟩
  clear hol
  have hle : lo' ≤ lo := by rw [hlo]; split <;> omega
  have hold : s.low ≤ ol ∧ s.low ≤ e ∧ lo' ≤ s.low ∧ s.low ≤ mxT := by
    rw [hs, hlo]
    split <;> split <;> omega
  refine ⟨fun y hy => ?_, ?_, by rw [List.length_cons]; omega, by omega, fun i hi hn y hy => ?_, fun i hi t ht => ?_, fun q => ⟨fun i hi t ht => ?_, ?_⟩⟩
  · rcases List.mem_cons.1 hy with rfl | hy
    · exact ⟨hx, he⟩
    · exact h.all y hy
  · rw [List.map_cons, List.nodup_cons]
    refine ⟨fun hm => ?_, h.nd⟩
    obtain ⟨y, hy, e1⟩ := List.mem_map.1 hm
    exact hf y.2 (by rw [← (show y.1 = x from e1)]; exact hy)
  · by_cases c : i = p
    · subst c
      rw [upd_same] at hn
      cases hn
    · rw [upd_other _ _ c] at hn
      rcases List.mem_cons.1 hy with rfl | hy
      · exact fun q => c (by rw [← q, hp])
      · exact h.none i hi hn y hy
  · by_cases c : i = p
    · subst c
      rw [upd_same] at ht
      injection ht with ht
      subst ht
      refine ⟨hold.2.2.1, hold.2.2.2, fun y hy hy2 => ?_⟩
      rcases List.mem_cons.1 hy with rfl | hy
      · exact hold.2.1
      · cases hsl : sl i with
        | none => exact absurd hy2 (h.none i hi hsl y hy)
        | some s0 =>
          have h1 := (h.low i hi s0 hsl).2.2 y hy hy2
          have h2 := hold.1
          rw [o2 s0 hsl] at h2
          omega
    · rw [upd_other _ _ c] at ht
      obtain ⟨h1, h2, h3⟩ := h.low i hi t ht
      refine ⟨by omega, h2, fun y hy hy2 => ?_⟩
      rcases List.mem_cons.1 hy with rfl | hy
      · exact absurd (hp.trans hy2).symm c
      · exact h3 y hy hy2
  · obtain ⟨a1, a2⟩ := h.att q
    by_cases c : i = p
    · subst c
      rw [upd_same] at ht
      injection ht with ht
      subst ht
      by_cases d : e < ol
      · rw [if_pos d] at hs
        exact ⟨(x, e), List.mem_cons_self, hp.symm, hs.symm⟩
      · rw [if_neg d] at hs
        cases hsl : sl i with
        | none => rw [o1 hsl] at d; omega
        | some s0 =>
          rw [o2 s0 hsl] at hs
          obtain ⟨y, hy, hy1, hy2⟩ := a1 i hi s0 hsl
          exact ⟨y, List.mem_cons_of_mem _ hy, hy1, hy2.trans hs.symm⟩
    · rw [upd_other _ _ c] at ht
      obtain ⟨y, hy, hy1, hy2⟩ := a1 i hi t ht
      exact ⟨y, List.mem_cons_of_mem _ hy, hy1, hy2⟩
  · obtain ⟨a1, a2⟩ := h.att q
    by_cases d : e < ol ∧ e < lo
    · rw [if_pos d] at hlo
      exact .inr ⟨(x, e), List.mem_cons_self, hlo.symm⟩
    · rw [if_neg d] at hlo
      rcases a2 with ⟨rfl, e2⟩ | ⟨y, hy, e2⟩
      · refine absurd ⟨?_, by rw [e2]; omega⟩ d
        cases hsl : sl p with
        | none => rw [o1 hsl]; omega
        | some s0 =>
          obtain ⟨y, hy, _⟩ := a1 p hp4 s0 hsl
          simp at hy
      · exact .inr ⟨y, List.mem_cons_of_mem _ hy, e2.trans hlo.symm⟩
theorem add_at (N B hb : Nat) (ex : Prop) (l : List Tk) (x e : Int) (w : World) (h : WheelAt N w B hb ex l) (hB : B ≤ w.heap.size) (hN : N < 1000000) (hl : l.length < 1000000) (hx : wfU x) (he : 0 ≤ e ∧ e ≤ 1152921504606846976) (hf : ∀ z, (x, z) ∉ l) :
    Calls Tryd.prog 26 #[.pointer (some ⟨hb, 0, none⟩), .int .u64 x, .int .i64 e] w fun en w' => en = .returned Value.nilIface ∧ WheelAt (N + 1) w' B hb ex ((x, e) :: l) ∧ ChW B w w' := by
  obtain ⟨wb, lo, sl, hM, hL⟩ := h
  refine (add_calls N B hb wb lo l.length sl (inS l) x e w hx he hM hB hN (fun z hz => hf z hz.1) (fun hn y hy => hL.none _ (pos_lt e) hn y hy.1 hy.2) (by omega)).mono ?_
  rintro en w' ⟨rfl, s, hs, hM', hc⟩
  refine ⟨rfl, ⟨wb, _, _, ?_, hL.add hx he hf hl hs rfl⟩, hc⟩
  rw [List.length_cons]
  have := hM'.congr (L' := inS ((x, e) :: l)) (fun i y => by
    constructor
    · rintro (⟨h1, h2⟩ | ⟨rfl, rfl⟩)
      · exact ⟨List.mem_cons_of_mem _ h1, h2⟩
      · exact ⟨List.mem_cons_self, rfl⟩
    · rintro ⟨h1, h2⟩
      rcases List.mem_cons.1 h1 with rfl | h1
      · exact .inr ⟨h2.symm, rfl⟩
      · exact .inl ⟨h1, h2⟩)
  exact this
theorem mem_erase_tk {l : List Tk} (h : (l.map (·.1)).Nodup) {a b : Tk} : a ∈ l.erase b ↔ a ≠ b ∧ a ∈ l := (nodup_of_keys h).mem_erase_iff
theorem rem_at (N B hb : Nat) (ex : Prop) (l : List Tk) (x e : Int) (w : World) (h : WheelAt N w B hb ex l) (hz : (x, e) ∈ l) :
    Calls Tryd.prog 27 #[.pointer (some ⟨hb, 0, none⟩), .int .u64 x, .int .i64 e] w fun en w' => en = .returned Value.nilIface ∧ WheelAt N w' B hb False (l.erase (x, e)) ∧ ChW B w w' := by
  obtain ⟨wb, lo, sl, hM, hL⟩ := h
  obtain ⟨hx, he⟩ := hL.all _ hz
  have hlen := hL.len
  have hpos : 0 < l.length := List.length_pos_of_mem hz
  cases hsl : sl (pos e) with
  | none => exact absurd rfl (hL.none _ (pos_lt e) hsl _ hz)
  | some s0 =>
  have hone : ∀ y ∈ l, y ≠ (x, e) → y.1 ≠ x := fun y hy hne q => hne (by
    obtain ⟨a, b⟩ := y
    simp only at q
    subst q
    rw [key_one hL.nd hy hz])
  refine (remove_hit N B hb wb lo l.length sl (inS l) x e e s0 w hx he hM hsl ⟨hz, rfl⟩ (by omega)).mono ?_
  rintro en w' ⟨rfl, o, ho, hM', hc⟩
  refine ⟨rfl, ⟨wb, lo, upd sl (pos e) o, ?_, ?_⟩, hc⟩
  · have h1 : ((l.erase (x, e)).length : Int) = (l.length : Int) - 1 := by rw [List.length_erase_of_mem hz]; omega
    rw [h1]
    refine hM'.congr (fun i y => ?_)
    show (y ∈ l ∧ pos y.2 = i) ∧ ¬ (i = pos e ∧ y.1 = x) ↔ y ∈ l.erase (x, e) ∧ pos y.2 = i
    rw [mem_erase_tk hL.nd]
    constructor
    · rintro ⟨⟨h1, h2⟩, h3⟩
      exact ⟨⟨fun q => h3 (by subst q; exact ⟨h2.symm, rfl⟩), h1⟩, h2⟩
    · rintro ⟨⟨h1, h2⟩, h3⟩
      exact ⟨⟨h2, h3⟩, fun q => hone y h2 h1 q.2⟩
  · have hsub : ∀ y, y ∈ l.erase (x, e) → y ∈ l := fun y hy => ((mem_erase_tk hL.nd).1 hy).2
    refine ⟨fun y hy => hL.all y (hsub y hy), (hL.nd).sublist ((List.erase_sublist).map _), by rw [List.length_erase_of_mem hz]; omega, hL.loM, fun i hi hn y hy => ?_, fun i hi t ht => ?_, fun q => q.elim⟩
    · by_cases c : i = pos e
      · subst c
        rw [upd_same] at hn
        rcases ho with ⟨_, ho⟩ | ho
        · exact fun q => ho y ⟨⟨hsub y hy, q⟩, hone y (hsub y hy) ((mem_erase_tk hL.nd).1 hy).1⟩
        · rw [ho, hsl] at hn
          cases hn
      · rw [upd_other _ _ c] at hn
        exact hL.none i hi hn y (hsub y hy)
    · have ht' : sl i = some t := by
        by_cases c : i = pos e
        · subst c
          rw [upd_same] at ht
          rcases ho with ⟨ho, _⟩ | ho
          · rw [ho] at ht; cases ht
          · rw [← ho]; exact ht
        · rwa [upd_other _ _ c] at ht
      obtain ⟨h1, h2, h3⟩ := hL.low i hi t ht'
      exact ⟨h1, h2, fun y hy => h3 y (hsub y hy)⟩
theorem remm_at (N B hb : Nat) (ex : Prop) (l : List Tk) (x e : Int) (w : World) (h : WheelAt N w B hb ex l) (hE : WLaid w) (hx : wfU x) (he : 0 ≤ e ∧ e ≤ 1152921504606846976) (hf : ∀ z, (x, z) ∉ l) :
    Calls Tryd.prog 27 #[.pointer (some ⟨hb, 0, none⟩), .int .u64 x, .int .i64 e] w fun en w' => ∃ v, en = .returned v ∧ Err1 v ∧ w' = w := by
  obtain ⟨wb, lo, sl, hM, hL⟩ := h
  exact remove_miss N B hb wb lo l.length sl (inS l) x e w hx he hM hE (fun s _ z hz => hf z hz.1)
set_option maxRecDepth 100000 in
theorem upd_at (N B hb : Nat) (ex : Prop) (l : List Tk) (x e e2 : Int) (w : World) (h : WheelAt N w B hb ex l) (hB : B ≤ w.heap.size) (hN : N < 1000000) (hz : (x, e) ∈ l) (he : 0 ≤ e2 ∧ e2 ≤ 1152921504606846976) :
    Calls Tryd.prog 28 #[.pointer (some ⟨hb, 0, none⟩), .int .u64 x, .int .i64 e, .int .i64 e2] w fun en w' => en = .returned Value.nilIface ∧ WheelAt (N + 1) w' B hb False ((x, e2) :: l.erase (x, e)) ∧ ChW B w w' := by
  have HR := Aside0.mk (rem_at N B hb ex l x e w h hz)
  have hnd : (l.map (·.1)).Nodup := by obtain ⟨_, _, _, _, hL⟩ := h; exact hL.nd
  have hlen : l.length ≤ 1000000 := by obtain ⟨_, _, _, _, hL⟩ := h; exact hL.len
  have hx : wfU x := by obtain ⟨_, _, _, _, hL⟩ := h; exact (hL.all _ hz).1
  have hpos : 0 < l.length := List.length_pos_of_mem hz
  have hA : ∀ w1, WheelAt N w1 B hb False (l.erase (x, e)) → B ≤ w1.heap.size → Calls Tryd.prog 26 #[.pointer (some ⟨hb, 0, none⟩), .int .u64 x, .int .i64 e2] w1 fun en w' => en = .returned Value.nilIface ∧ WheelAt (N + 1) w' B hb False ((x, e2) :: l.erase (x, e)) ∧ ChW B w1 w' := fun w1 h1 hB1 =>
    add_at N B hb False (l.erase (x, e)) x e2 w1 h1 hB1 hN (by rw [List.length_erase_of_mem hz]; omega) hx he (fun z hm => by
      obtain ⟨h1, h2⟩ := (mem_erase_tk hnd).1 hm
      exact h1 (by rw [key_one hnd h2 hz]))
  have HA := Aside0.mk (And.intro hA hB)
  clear h hB hN hz he hnd hlen hx hpos hA
  go_enter Tryd.func28, Tryd.ntmps28
  go_wp2_with fail
  refine HR.out.mono ?_
  rintro en w1 ⟨rfl, h1, c1⟩
  have H1 := Aside0.mk (And.intro h1 c1)
  clear h1 c1
  go_wp2_with fail
  refine (HA.out.1 w1 H1.out.1 (Nat.le_trans HA.out.2 H1.out.2.size)).mono ?_
  rintro en w2 ⟨rfl, h2, c2⟩
  have H2 := Aside0.mk (And.intro h2 c2)
  clear h2 c2
  go_wp2_with fail
  go_ret
  exact ⟨rfl, H2.out.1, H1.out.2.trans H2.out.2⟩
set_option maxRecDepth 100000 in
theorem updm_at (N B hb : Nat) (ex : Prop) (l : List Tk) (x e e2 : Int) (w : World) (h : WheelAt N w B hb ex l) (hE : WLaid w) (hx : wfU x) (he : 0 ≤ e ∧ e ≤ 1152921504606846976) (hf : ∀ z, (x, z) ∉ l) :
    Calls Tryd.prog 28 #[.pointer (some ⟨hb, 0, none⟩), .int .u64 x, .int .i64 e, .int .i64 e2] w fun en w' => ∃ v, en = .returned v ∧ Err1 v ∧ w' = w := by
  have HR := Aside0.mk (remm_at N B hb ex l x e w h hE hx he hf)
  clear h hE hx he hf
  go_enter Tryd.func28, Tryd.ntmps28
  go_wp2_with fail
  refine HR.out.mono ?_
  rintro en w1 ⟨v, rfl, ⟨t, u, rfl⟩, rfl⟩
  go_wp2_with fail
  go_ret
  exact ⟨_, rfl, ⟨_, _, rfl⟩, rfl⟩

end Go.Proofs.YtnkjlfadegjjoaaDoor.WhA
