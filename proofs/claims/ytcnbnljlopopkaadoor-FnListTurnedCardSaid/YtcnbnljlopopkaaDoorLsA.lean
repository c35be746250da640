/- WALKS: a list of interest (gsl.GenericSublist) in memory: its trie, its lock, its small functions. -/
import Derived.Test.YtcnbnljlopopkaaDoorProg
import Derived.Below
import Derived.Deep.Draws
import Derived.Deep.AppendLies
import Derived.Maps.AppendAt
import Derived.OwnWalk
import Derived.Laws.BytesArg
import Derived.Laws.MakeOwn
import Derived.Laws.OwnMore
import Derived.Deep.OwnRows
import Derived.Tactics
import Derived.Lib.ConvBytes
import Derived.Laws.Slices
import Derived.WalkKit
import Derived.KernelRfl
import Derived.RowKit3
import Derived.Deep.LoopGhost
import Derived.Deep.QuietTactic
import Derived.BigQuiet
import Derived.WideLaws
import Derived.Deep.DeepCutAuto
import Derived.Deep.CutBlock
import Derived.Deep.RegionHeld3
import Derived.Laws.Rows
import Derived.Lib.AppendStr
import Derived.ArgAppend
import Derived.Laws.IdiomCopy
import Derived.OrdersHeld
import Derived.Laws.BitsLemmas
import Derived.RowKit
import Derived.Test.YtcnbnljlopopkaaDoorWWords
import Derived.Test.YtcnbnljlopopkaaDoorWLast
import Derived.Test.YtcnbnljlopopkaaDoorWTab
import Derived.Test.YtcnbnljlopopkaaDoorWFour
import Derived.Test.YtcnbnljlopopkaaDoorWQPut
import Derived.Test.YtcnbnljlopopkaaDoorWApart
import Derived.Test.YtcnbnljlopopkaaDoorWArr
import Derived.Test.YtcnbnljlopopkaaDoorWZeros
import Derived.Test.YtcnbnljlopopkaaDoorWFoot
import Derived.Test.YtcnbnljlopopkaaDoorWKept
import Derived.Test.YtcnbnljlopopkaaDoorWShare
import Derived.Test.YtcnbnljlopopkaaDoorWN
import Derived.Test.YtcnbnljlopopkaaDoorWFootNe
import Derived.Test.YtcnbnljlopopkaaDoorWAt
import Derived.Test.YtcnbnljlopopkaaDoorWEqStruct
import Derived.Test.YtcnbnljlopopkaaDoorWRepsOne
import Derived.Test.YtcnbnljlopopkaaDoorWInv
import Derived.Test.YtcnbnljlopopkaaDoorWInvWords
import Derived.Test.YtcnbnljlopopkaaDoorWGuard
import Derived.Test.YtcnbnljlopopkaaDoorWNEv
import Derived.Test.YtcnbnljlopopkaaDoorWMore
import Derived.Test.YtcnbnljlopopkaaDoorLsQ
import Derived.Test.YtcnbnljlopopkaaDoorLocks
import Derived.Test.YtcnbnljlopopkaaDoorRoad
import Derived.Test.YtcnbnljlopopkaaDoorRunes
import Derived.Maps.StringElems
import Derived.Maps.RangeWalk
import Derived.Maps.Ext
import Derived.Maps.OwnSet
import Derived.Stop.LaidErr
import Derived.LaidEqlPtr
import Derived.RegionTactic
import Derived.StillTailTactics
namespace Go.Proofs.YtcnbnljlopopkaaDoor.LsA
open Go.RowKit Go.Proofs.YtcnbnljlopopkaaDoorW.PrintWords Go.Proofs.YtcnbnljlopopkaaDoorW.PrintLast Go.Proofs.YtcnbnljlopopkaaDoorW.PrintMore
attribute [local go_sem] max2_int min2_int max_two min_two max_three min_three max_four min_four   -- for this text's walks alone
set_option linter.unusedVariables false
set_option linter.unusedSimpArgs false



open Go.Maps
/-! ### tokens, places in the trie -/
abbrev Path := List ByteArray
@[reducible] def star : ByteArray := { data := #[42] }
@[reducible] def gts : ByteArray := { data := #[62] }
theorem gts_ne_star : gts ≠ star := by decide
structure Rc where
 b : Nat
 m : Nat
structure Trie where
 nd : Path → Option Rc
 lv : Path → Option Rc
def adR : Option Rc → Option Addr
 | none => none
 | some r => some ⟨r.b, 0, none⟩
@[reducible] def ptR (x : Option Rc) : Value := .pointer (adR x)
def upR (f : Path → Option Rc) (p : Path) (x : Option Rc) : Path → Option Rc := fun q => if q = p then x else f q
theorem upR_same (f : Path → Option Rc) (p : Path) (x : Option Rc) : upR f p x p = x := if_pos rfl
theorem upR_other (f : Path → Option Rc) {p q : Path} (x : Option Rc) (h : q ≠ p) : upR f p x q = f q := if_neg h
theorem snoc_inj {p : Path} {a b : ByteArray} : p ++ [a] = p ++ [b] ↔ a = b := ⟨fun h => by simpa using h, fun h => by rw [h]⟩
theorem snoc_inj2 {p q : Path} {a b : ByteArray} (h : p ++ [a] = q ++ [b]) : p = q ∧ a = b := by
 have := List.append_inj' h rfl
 exact ⟨this.1, by simpa using this.2⟩
/-! ### maps -/
def nl (b : Nat) : DataW Unit := .lit (.int .i64 (b : Int))
def nn : DataW Unit := .lit (.int .i64 (-1))
def sl (s : ByteArray) : DataW Unit := .lit (.string s.data.toList)
theorem nl_inj {a b : Nat} (h : nl a = nl b) : a = b := by
 unfold nl at h
 injection h with h
 injection h with _ h
 omega
theorem nl_ne (b : Nat) : nl b ≠ nn := by
 unfold nl nn
 intro h
 injection h with h
 injection h with _ h
 omega
theorem sl_inj {a b : ByteArray} (h : sl a = sl b) : a = b := by
 unfold sl at h
 injection h with h
 injection h with h
 cases a; cases b
 simp at h
 rw [h]
def RN : Value → Option (DataW Unit × List MemPlace)
 | .pointer none => some (nn, [])
 | .pointer (some ⟨b, 0, none⟩) => some (nl b, [])
 | _ => none
theorem RN_some (b : Nat) : RN (.pointer (some ⟨b, 0, none⟩)) = some (nl b, []) := rfl
theorem RN_none : RN (.pointer none) = some (nn, []) := rfl
theorem RN_inv {v : Value} {y : DataW Unit × List MemPlace} (h : RN v = some y) : (y.1 = nn ∧ v = .pointer none) ∨ ∃ b, y.1 = nl b ∧ v = .pointer (some ⟨b, 0, none⟩) := by
 unfold RN at h
 split at h
 ·
  injection h with h; exact .inl ⟨by rw [← h], rfl⟩
 ·
  rename_i b; injection h with h; exact .inr ⟨b, by rw [← h], rfl⟩
 ·
  cases h
def kS (s : ByteArray) : Lit := .string s.data.toList
def kI (x : Int) : Lit := .int .i64 x
theorem kS_ne {x y : ByteArray} (h : x ≠ y) : kS x ≠ kS y := fun e => h (by
 unfold kS at e
 injection e with e
 cases x; cases y
 simp at e
 rw [e])
theorem kI_ne {x y : Int} (h : x ≠ y) : kI x ≠ kI y := fun e => h (by unfold kI at e; injection e)
def okS (s : ByteArray) : Prop := s.size ≤ maxLen
def okI (x : Int) : Prop := (Lit.int .i64 x).wf = true
def MapIs {α : Type} (kl : α → Lit) (ok : α → Prop) (D : DataW Unit) (L : α → DataW Unit → Prop) : Prop :=
 (∀ x, ok x → (Maps.has D (kl x) = true ↔ ∃ d, L x d)) ∧ (∀ x d, L x d → ok x ∧ ∀ zd, D.atKey (kl x) zd = d)
section
variable {α : Type} {kl : α → Lit} {ok : α → Prop} {D : DataW Unit} {L L' : α → DataW Unit → Prop}
theorem MapIs.congr (h : MapIs kl ok D L) (e : ∀ x d, L x d ↔ L' x d) : MapIs kl ok D L' :=
 ⟨fun x hx => (h.1 x hx).trans ⟨fun ⟨z, hz⟩ => ⟨z, (e _ _).1 hz⟩, fun ⟨z, hz⟩ => ⟨z, (e _ _).2 hz⟩⟩, fun x z hz => h.2 x z ((e _ _).2 hz)⟩
theorem MapIs.one (h : MapIs kl ok D L) {x : α} {a b : DataW Unit} (ha : L x a) (hb : L x b) : a = b := ((h.2 x a ha).2 .nil).symm.trans ((h.2 x b hb).2 .nil)
theorem MapIs.empty : MapIs kl ok (.map []) (fun _ _ => False) := ⟨fun x _ => ⟨fun h => by simp [Maps.has] at h, fun ⟨_, h⟩ => h.elim⟩, fun _ _ h => h.elim⟩
theorem MapIs.put (h : MapIs kl ok D L) (hD : IsMap D) (hinj : ∀ x y, x ≠ y → kl x ≠ kl y) (hk : ∀ x, WideAt.IsKeyLit (kl x)) {x : α} {d : DataW Unit} (hx : ok x) : MapIs kl ok (D.put (kl x) d) (fun y z => (y ≠ x ∧ L y z) ∨ (y = x ∧ z = d)) := by
 constructor
 ·
  intro y hy
  by_cases c : y = x
  ·
   subst c
   rw [has_put_same hD (hk y)]
   exact ⟨fun _ => ⟨d, .inr ⟨rfl, rfl⟩⟩, fun _ => rfl⟩
  ·
   rw [has_put_other (hinj _ _ c), h.1 y hy]
   exact ⟨fun ⟨z, hz⟩ => ⟨z, .inl ⟨c, hz⟩⟩, fun ⟨z, hz⟩ => ⟨z, (hz.resolve_right (fun q => c q.1)).2⟩⟩
 ·
  intro y z hz
  by_cases c : y = x
  ·
   subst c
   rcases hz with hz | hz
   ·
    exact absurd rfl hz.1
   ·
    rw [hz.2]
    exact ⟨hx, fun zd => atKey_put_same hD (hk y) _ zd⟩
  ·
   have hz' := (hz.resolve_right (fun q => c q.1)).2
   exact ⟨(h.2 y z hz').1, fun zd => (atKey_put_other (hinj _ _ c) _ zd).trans ((h.2 y z hz').2 zd)⟩
theorem MapIs.del (h : MapIs kl ok D L) (hinj : ∀ x y, x ≠ y → kl x ≠ kl y) (x : α) : MapIs kl ok (D.del (kl x)) (fun y z => y ≠ x ∧ L y z) := by
 constructor
 ·
  intro y hy
  by_cases c : y = x
  ·
   subst c
   rw [has_del_same]
   exact ⟨fun q => absurd q (by simp), fun ⟨z, hz⟩ => absurd rfl hz.1⟩
  ·
   rw [has_del_other (hinj _ _ c), h.1 y hy]
   exact ⟨fun ⟨z, hz⟩ => ⟨z, c, hz⟩, fun ⟨z, hz⟩ => ⟨z, hz.2⟩⟩
 ·
  intro y z hz
  exact ⟨(h.2 y z hz.2).1, fun zd => (atKey_del_other (hinj _ _ hz.1) zd).trans ((h.2 y z hz.2).2 zd)⟩
end
def nMap (n : Nat) (w : World) (m : Nat) (D : DataW Unit) : Prop := w.ownsMap Tryd.prog 9 RN m n D
def sMap (n : Nat) (w : World) (m : Nat) (D : DataW Unit) : Prop := w.ownsMap Tryd.prog 3 (plainElem Tryd.prog 9) m n D
def NAt (n : Nat) (w : World) (m : Nat) (L : ByteArray → DataW Unit → Prop) : Prop := ∃ D, nMap n w m D ∧ MapIs kS okS D L
def SAt (n : Nat) (w : World) (m : Nat) (L : Int → DataW Unit → Prop) : Prop := ∃ D, sMap n w m D ∧ MapIs kI okI D L
theorem lawS : Keyed Tryd.prog 9 := string_keyed Tryd.underlying9
theorem lawI : Keyed Tryd.prog 3 := int_keyed Tryd.underlying3
theorem own_keep {P : Program} {k : TypeId} {R : Value → Option (DataW Unit × List MemPlace)} {n m : Nat} {w w' : World} {D : DataW Unit} (h : w.ownsMap P k R m n D) (hk : w'.heap[m]? = w.heap[m]?) : w'.ownsMap P k R m n D := by
 obtain ⟨es, clock, hb, r⟩ := h
 exact ⟨es, clock, hk.trans hb, r⟩
theorem NAt.keep {n m : Nat} {w w' : World} {L : ByteArray → DataW Unit → Prop} (h : NAt n w m L) (hk : w'.heap[m]? = w.heap[m]?) : NAt n w' m L := by
 obtain ⟨D, hD, hL⟩ := h
 exact ⟨D, own_keep hD hk, hL⟩
theorem SAt.keep {n m : Nat} {w w' : World} {L : Int → DataW Unit → Prop} (h : SAt n w m L) (hk : w'.heap[m]? = w.heap[m]?) : SAt n w' m L := by
 obtain ⟨D, hD, hL⟩ := h
 exact ⟨D, own_keep hD hk, hL⟩
theorem NAt.mono {n n' m : Nat} {w : World} {L : ByteArray → DataW Unit → Prop} (h : NAt n w m L) (hn : n ≤ n') : NAt n' w m L := by
 obtain ⟨D, hD, hL⟩ := h
 exact ⟨D, hD.mono hn, hL⟩
theorem SAt.mono {n n' m : Nat} {w : World} {L : Int → DataW Unit → Prop} (h : SAt n w m L) (hn : n ≤ n') : SAt n' w m L := by
 obtain ⟨D, hD, hL⟩ := h
 exact ⟨D, hD.mono hn, hL⟩
theorem NAt.congr {n m : Nat} {w : World} {L L' : ByteArray → DataW Unit → Prop} (h : NAt n w m L) (e : ∀ x d, L x d ↔ L' x d) : NAt n w m L' := by
 obtain ⟨D, hD, hL⟩ := h
 exact ⟨D, hD, hL.congr e⟩
theorem SAt.congr {n m : Nat} {w : World} {L L' : Int → DataW Unit → Prop} (h : SAt n w m L) (e : ∀ x d, L x d ↔ L' x d) : SAt n w m L' := by
 obtain ⟨D, hD, hL⟩ := h
 exact ⟨D, hD, hL.congr e⟩
theorem NAt.obj {n m : Nat} {w : World} {L : ByteArray → DataW Unit → Prop} (h : NAt n w m L) : ∃ es c, w.heap[m]? = some (.map es c) := by
 obtain ⟨D, ⟨es, clock, hb, _⟩, _⟩ := h
 exact ⟨es, clock, hb⟩
theorem SAt.obj {n m : Nat} {w : World} {L : Int → DataW Unit → Prop} (h : SAt n w m L) : ∃ es c, w.heap[m]? = some (.map es c) := by
 obtain ⟨D, ⟨es, clock, hb, _⟩, _⟩ := h
 exact ⟨es, clock, hb⟩
theorem NAt.made (w : World) : NAt 0 (w.alloc (.map #[] 0)) w.heap.size (fun _ _ => False) := ⟨.map [], World.ownsMap_made w _ _ _, MapIs.empty⟩
theorem SAt.made (w : World) : SAt 0 (w.alloc (.map #[] 0)) w.heap.size (fun _ _ => False) := ⟨.map [], World.ownsMap_made w _ _ _, MapIs.empty⟩
/-- A look-up of a token. -/
theorem NAt.look {n m : Nat} {w : World} {L : ByteArray → DataW Unit → Prop} (h : NAt n w m L) {t : ByteArray} (ht : okS t) (x : Option Rc) (hx : ∀ d, L t d ↔ ∃ r, x = some r ∧ d = nl r.b) :
  (Instr.lookup 97 (.map (some m)) (.string t) false).run Tryd.prog w = .ok (ptR x) w := by
 obtain ⟨D, hD, hL⟩ := h
 have hz : (zeroValue 95).run Tryd.prog w = .ok (.pointer none) w := by kernel_rfl
 obtain ⟨v, ps, hrun, hv⟩ := World.ownsMap.lookup hD lawS Tryd.underlying97 hz RN_none (WideMaps.keyOf_string_mk (P := Tryd.prog) Tryd.underlying9 ht)
 rw [hrun]
 have e : v = ptR x := by
  cases x with
  | none =>
   have hn : Maps.has D (kS t) = false := by
    cases q : Maps.has D (kS t) with
    | false => rfl
    | true =>
     obtain ⟨d, hd⟩ := (hL.1 t ht).1 q
     obtain ⟨r, hr, _⟩ := (hx d).1 hd
     exact absurd hr (by simp)
   rw [show D.atKey (Lit.string t.data.toList) nn = nn from atKey_of_not_has hn nn] at hv
   rcases RN_inv hv with ⟨_, e⟩ | ⟨b, e, _⟩
   ·
    exact e
   ·
    exact absurd e.symm (nl_ne b)
  | some r =>
   have hd := (hx (nl r.b)).2 ⟨r, rfl, rfl⟩
   rw [show D.atKey (Lit.string t.data.toList) nn = nl r.b from (hL.2 t _ hd).2 nn] at hv
   rcases RN_inv hv with ⟨e, _⟩ | ⟨b, e, e'⟩
   ·
    exact absurd e (nl_ne r.b)
   ·
    have := nl_inj e
    subst this
    exact e'
 rw [e]
/-! ### the trie in memory -/
@[reducible] def tLv : Nat := 99
@[reducible] def tNd : Nat := 103
def kids (T : Trie) (p : Path) : ByteArray → DataW Unit → Prop := fun t d => t ≠ star ∧ t ≠ gts ∧ ∃ r, T.nd (p ++ [t]) = some r ∧ d = nl r.b
abbrev Ent := ByteArray × Int
/-- What is put at a place: the values and the subjects of the entries whose tokens lead there. -/
def subsAt (tk : ByteArray → Path) (E : List Ent) (p : Path) : Int → DataW Unit → Prop := fun v d => ∃ s, (s, v) ∈ E ∧ tk s = p ∧ d = sl s
structure MemT (tk : ByteArray → Path) (N : Nat) (w : World) (B : Nat) (T : Trie) (E : List Ent) : Prop where
 lvl : ∀ p r, T.lv p = some r → B ≤ r.b ∧ B ≤ r.m ∧ w.heap[r.b]? = some (.cells #[.map (some r.m), ptR (T.nd (p ++ [star])), ptR (T.nd (p ++ [gts]))] 99 (0, 0)) ∧ NAt N w r.m (kids T p)
 nod : ∀ p r, T.nd p = some r → B ≤ r.b ∧ B ≤ r.m ∧ w.heap[r.b]? = some (.cells #[ptR (T.lv p), .map (some r.m)] 103 (0, 0)) ∧ SAt N w r.m (subsAt tk E p)
 ilv : ∀ p q r s, T.lv p = some r → T.lv q = some s → p ≠ q → r.b ≠ s.b ∧ r.m ≠ s.m
 ind : ∀ p q r s, T.nd p = some r → T.nd q = some s → p ≠ q → r.b ≠ s.b ∧ r.m ≠ s.m
 imm : ∀ p q r s, T.lv p = some r → T.nd q = some s → r.m ≠ s.m
 up : ∀ p t r, T.nd (p ++ [t]) = some r → T.lv p ≠ none
 ent : ∀ s v, (s, v) ∈ E → T.nd (tk s) ≠ none
 dn : ∀ p, T.lv p ≠ none → p = [] ∨ T.nd p ≠ none
/-! ### what stays -/
def wl : Obj → Bool
 | .cells _ T _ => T == 87 || T == 99 || T == 103
 | .map _ _ => true
 | .mapIter .. => true
 | _ => false
/-- .. but the iterators and the lists' heads. -/
def wm : Obj → Bool
 | .cells _ T _ => T == 99 || T == 103
 | .map _ _ => true
 | _ => false
theorem wl_of_wm {o : Obj} (h : wm o = true) : wl o = true := by
 cases o with
 | cells a T f =>
  simp only [wm, wl, Bool.or_eq_true] at h ⊢
  rcases h with h | h
  ·
   exact .inl (.inr h)
  ·
   exact .inr h
 | _ => first | exact h | exact absurd h (by simp [wm])
/-- The list's turn: blocks below B and those that are no list's stay. -/
structure ChL (B : Nat) (w w' : World) : Prop where
 os : w'.os = w.os
 tape : w'.tape = w.tape
 output : w'.output = w.output
 size : w.heap.size ≤ w'.heap.size
 low : ∀ k, k < B → k < w.heap.size → w'.heap[k]? = w.heap[k]?
 typ : ∀ (k : Nat) (o : Obj), w.heap[k]? = some o → wl o = false → w'.heap[k]? = some o
theorem ChL.refl (B : Nat) (w : World) : ChL B w w := ⟨rfl, rfl, rfl, Nat.le_refl _, fun _ _ _ => rfl, fun _ _ h _ => h⟩
theorem ChL.trans {B : Nat} {a b c : World} (h : ChL B a b) (k : ChL B b c) : ChL B a c :=
 ⟨k.os.trans h.os, k.tape.trans h.tape, k.output.trans h.output, Nat.le_trans h.size k.size, fun i hi hs => (k.low i hi (Nat.lt_of_lt_of_le hs h.size)).trans (h.low i hi hs), fun i o ho hk => k.typ i o (h.typ i o ho hk) hk⟩
theorem ChL.below {B : Nat} {w w' : World} (h : ChL B w w') (hB : B ≤ w.heap.size) : Below B w w' := ⟨h.os, h.tape, h.output, h.size, fun k hk => h.low k hk (Nat.lt_of_lt_of_le hk hB)⟩
theorem ChL.of_below {B : Nat} {a b : World} (h : Below a.heap.size a b) : ChL B a b :=
 ⟨h.os, h.tape, h.output, h.size, fun k _ hs => h.block k hs, fun k o ho _ => (h.block k (Array.getElem?_eq_some_iff.1 ho).1).trans ho⟩
theorem ChL.set {B : Nat} {w : World} {g : Nat} (hg : B ≤ g) {o : Obj} (ho : w.heap[g]? = some o) (hk : wl o = true) {w' : World} (h : w.grownBy w' (some g)) : ChL B w w' :=
 ⟨h.os, h.tape, h.output, h.size, fun k hk hs => h.block k hs (fun e => by injection e with e; omega), fun k o' ho' hk' => (h.block k (Array.getElem?_eq_some_iff.1 ho').1 (fun e => by
  injection e with e
  subst e
  rw [ho] at ho'
  injection ho' with ho'
  rw [ho', hk'] at hk
  exact absurd hk (by simp))).trans ho'⟩
theorem grown_setCell (w : World) (g j : Nat) (v : Value) : w.grownBy (w.setCell ⟨g, j, none⟩ v) (some g) :=
 ⟨by simp [World.setCell], by simp [World.setCell], by simp [World.setCell], by simp [World.setCell], fun k _ hne => Road.setCell_other_heap w j v (fun e => hne (by rw [e]))⟩
theorem cell_same {w w' : World} {k : Nat} (h : w'.heap[k]? = w.heap[k]?) (j : Nat) : w'.cell? ⟨k, j, none⟩ = w.cell? ⟨k, j, none⟩ := by
 unfold World.cell?
 rw [h]
theorem lt_some {w : World} {k : Nat} {o : Obj} (h : w.heap[k]? = some o) : k < w.heap.size := (Array.getElem?_eq_some_iff.1 h).1
theorem ne_obj {w : World} {a b : Nat} {o o' : Obj} (h : w.heap[a]? = some o) (h' : w.heap[b]? = some o') (hne : o ≠ o') : a ≠ b := by
 rintro rfl
 rw [h] at h'
 injection h' with h'
 exact hne h'
theorem cells_ne {c c' : Array Value} {T T' : TypeId} {f f' : Nat × Nat} (h : T ≠ T') : Obj.cells c T f ≠ Obj.cells c' T' f' := fun e => h (by injection e)
theorem map_ne {c : Array Value} {T : TypeId} {f : Nat × Nat} {es : Array MapEntry} {n : Nat} : Obj.cells c T f ≠ Obj.map es n := fun e => by injection e
theorem cell_lt {w : World} {a : Addr} {v : Value} (h : w.cell? a = some v) : a.block < w.heap.size := by
 unfold World.cell? at h
 rcases Nat.lt_or_ge a.block w.heap.size with c | c
 ·
  exact c
 ·
  rw [Array.getElem?_eq_none c] at h
  exact absurd h (by simp)
/-! ### the trie's memory, step by step -/
section
variable {tk : ByteArray → Path} {N N' B : Nat} {w w' : World} {T : Trie} {E : List Ent}
theorem some_ne {α : Type} {x : Option α} {y : α} (h : x = some y) : x ≠ none := by rw [h]; simp
theorem MemT.keep (h : MemT tk N w B T E) (hk : ∀ (k : Nat) (o : Obj), w.heap[k]? = some o → wm o = true → w'.heap[k]? = some o) : MemT tk N w' B T E := by
 refine ⟨fun p r hr => ?_, fun p r hr => ?_, h.ilv, h.ind, h.imm, h.up, h.ent, h.dn⟩
 ·
  obtain ⟨k1, k2, k3, k4⟩ := h.lvl p r hr
  obtain ⟨es, c, k5⟩ := k4.obj
  exact ⟨k1, k2, hk _ _ k3 rfl, k4.keep ((hk _ _ k5 rfl).trans k5.symm)⟩
 ·
  obtain ⟨k1, k2, k3, k4⟩ := h.nod p r hr
  obtain ⟨es, c, k5⟩ := k4.obj
  exact ⟨k1, k2, hk _ _ k3 rfl, k4.keep ((hk _ _ k5 rfl).trans k5.symm)⟩
theorem MemT.below (h : MemT tk N w B T E) (hB : Below w.heap.size w w') : MemT tk N w' B T E :=
 h.keep (fun _ o ho _ => (hB.block _ (lt_some ho)).trans ho)
theorem MemT.mono (h : MemT tk N w B T E) (hn : N ≤ N') : MemT tk N' w B T E :=
 ⟨fun p r hr => by obtain ⟨a, b, c, d⟩ := h.lvl p r hr; exact ⟨a, b, c, d.mono hn⟩, fun p r hr => by obtain ⟨a, b, c, d⟩ := h.nod p r hr; exact ⟨a, b, c, d.mono hn⟩, h.ilv, h.ind, h.imm, h.up, h.ent, h.dn⟩
/-- Blocks of different kinds. -/
theorem MemT.lvnd (h : MemT tk N w B T E) {p q : Path} {r s : Rc} (hr : T.lv p = some r) (hs : T.nd q = some s) : r.b ≠ s.b := by
 obtain ⟨_, _, k3, _⟩ := h.lvl p r hr
 obtain ⟨_, _, m3, _⟩ := h.nod q s hs
 exact ne_obj k3 m3 (cells_ne (by decide))
theorem MemT.lvbm (h : MemT tk N w B T E) {p q : Path} {r s : Rc} (hr : T.lv p = some r) (hs : T.lv q = some s) : r.b ≠ s.m := by
 obtain ⟨_, _, k3, _⟩ := h.lvl p r hr
 obtain ⟨_, _, _, m4⟩ := h.lvl q s hs
 obtain ⟨es, c, k5⟩ := m4.obj
 exact ne_obj k3 k5 map_ne
theorem MemT.lvbn (h : MemT tk N w B T E) {p q : Path} {r s : Rc} (hr : T.lv p = some r) (hs : T.nd q = some s) : r.b ≠ s.m := by
 obtain ⟨_, _, k3, _⟩ := h.lvl p r hr
 obtain ⟨_, _, _, m4⟩ := h.nod q s hs
 obtain ⟨es, c, k5⟩ := m4.obj
 exact ne_obj k3 k5 map_ne
theorem MemT.ndbm (h : MemT tk N w B T E) {p q : Path} {r s : Rc} (hr : T.nd p = some r) (hs : T.lv q = some s) : r.b ≠ s.m := by
 obtain ⟨_, _, k3, _⟩ := h.nod p r hr
 obtain ⟨_, _, _, m4⟩ := h.lvl q s hs
 obtain ⟨es, c, k5⟩ := m4.obj
 exact ne_obj k3 k5 map_ne
theorem MemT.ndbn (h : MemT tk N w B T E) {p q : Path} {r s : Rc} (hr : T.nd p = some r) (hs : T.nd q = some s) : r.b ≠ s.m := by
 obtain ⟨_, _, k3, _⟩ := h.nod p r hr
 obtain ⟨_, _, _, m4⟩ := h.nod q s hs
 obtain ⟨es, c, k5⟩ := m4.obj
 exact ne_obj k3 k5 map_ne
theorem MemT.lvlt (h : MemT tk N w B T E) {p : Path} {r : Rc} (hr : T.lv p = some r) : r.b < w.heap.size ∧ r.m < w.heap.size := by
 obtain ⟨_, _, k3, k4⟩ := h.lvl p r hr
 obtain ⟨es, c, k5⟩ := k4.obj
 exact ⟨lt_some k3, lt_some k5⟩
theorem MemT.ndlt (h : MemT tk N w B T E) {p : Path} {r : Rc} (hr : T.nd p = some r) : r.b < w.heap.size ∧ r.m < w.heap.size := by
 obtain ⟨_, _, k3, k4⟩ := h.nod p r hr
 obtain ⟨es, c, k5⟩ := k4.obj
 exact ⟨lt_some k3, lt_some k5⟩
/-- A new node, its own next level not there yet. -/
theorem MemT.addNode (h : MemT tk N w B T E) (hB : B ≤ w.heap.size) {p : Path} {t : ByteArray} {r x : Rc} (hr : T.lv p = some r) (h0 : T.nd (p ++ [t]) = none) (hN : N ≤ N') (x1 : w.heap.size ≤ x.b) (x2 : w.heap.size ≤ x.m)
  (hn : w'.heap[x.b]? = some (.cells #[.pointer none, .map (some x.m)] 103 (0, 0))) (hs : SAt N' w' x.m (fun _ _ => False))
  (hl : w'.heap[r.b]? = some (.cells #[.map (some r.m), ptR (upR T.nd (p ++ [t]) (some x) (p ++ [star])), ptR (upR T.nd (p ++ [t]) (some x) (p ++ [gts]))] 99 (0, 0)))
  (hm : NAt N' w' r.m (kids ⟨upR T.nd (p ++ [t]) (some x), T.lv⟩ p))
  (hk : ∀ k, k < w.heap.size → k ≠ r.b → k ≠ r.m → w'.heap[k]? = w.heap[k]?) : MemT tk N' w' B ⟨upR T.nd (p ++ [t]) (some x), T.lv⟩ E := by
 have hlv0 : T.lv (p ++ [t]) = none := by
  cases q : T.lv (p ++ [t]) with
  | none => rfl
  | some s =>
   rcases h.dn _ (some_ne q) with e | e
   ·
    exact absurd e (by simp)
   ·
    exact absurd h0 e
 have hd : ∀ q, q ≠ p → ∀ u, upR T.nd (p ++ [t]) (some x) (q ++ [u]) = T.nd (q ++ [u]) := fun q hq u => upR_other _ _ (fun e => hq (snoc_inj2 e).1)
 refine ⟨fun q s hs' => ?_, fun q s hs' => ?_, h.ilv, fun q1 q2 r1 r2 e1 e2 hne => ?_, fun q1 q2 r1 r2 e1 e2 => ?_, fun q u s hs' => ?_, fun s v hv => ?_, fun q hq => ?_⟩
 ·
  obtain ⟨k1, k2, k3, k4⟩ := h.lvl q s hs'
  by_cases c : q = p
  ·
   subst c
   have e : s = r := by
    have : T.lv q = some s := hs'
    rw [hr] at this
    exact (Option.some.inj this).symm
   subst e
   exact ⟨k1, k2, hl, hm⟩
  ·
   have hk1 := hk s.b (h.lvlt hs').1 (h.ilv q p s r hs' hr c).1 (h.lvbm hs' hr)
   have hk2 := hk s.m (h.lvlt hs').2 (Ne.symm (h.lvbm hr hs')) (h.ilv q p s r hs' hr c).2
   refine ⟨k1, k2, ?_, ((k4.keep hk2).mono hN).congr (fun u d => ?_)⟩
   ·
    rw [hk1, k3]
    show some (Obj.cells #[_, ptR (T.nd (q ++ [star])), ptR (T.nd (q ++ [gts]))] _ _) = some (Obj.cells #[_, ptR (upR T.nd (p ++ [t]) (some x) (q ++ [star])), ptR (upR T.nd (p ++ [t]) (some x) (q ++ [gts]))] _ _)
    rw [hd q c, hd q c]
   ·
    show _ ↔ (u ≠ star ∧ u ≠ gts ∧ ∃ r', upR T.nd (p ++ [t]) (some x) (q ++ [u]) = some r' ∧ d = nl r'.b)
    rw [hd q c]
    exact Iff.rfl
 ·
  by_cases c : q = p ++ [t]
  ·
   subst c
   have e : some x = some s := (upR_same T.nd (p ++ [t]) (some x)).symm.trans hs'
   injection e with e
   subst e
   refine ⟨Nat.le_trans hB x1, Nat.le_trans hB x2, ?_, hs.congr (fun v d => ⟨fun f => f.elim, fun ⟨s', hs1, hs2, _⟩ => h.ent s' v hs1 (by rw [hs2]; exact h0)⟩)⟩
   show _ = some (Obj.cells #[ptR (T.lv (p ++ [t])), _] _ _)
   rw [hlv0]
   exact hn
  ·
   have e : T.nd q = some s := (upR_other T.nd (some x) c).symm.trans hs'
   obtain ⟨k1, k2, k3, k4⟩ := h.nod q s e
   have hk1 := hk s.b (h.ndlt e).1 (Ne.symm (h.lvnd hr e)) (h.ndbm e hr)
   have hk2 := hk s.m (h.ndlt e).2 (Ne.symm (h.lvbn hr e)) (Ne.symm (h.imm p q r s hr e))
   exact ⟨k1, k2, hk1.trans k3, (k4.keep hk2).mono hN⟩
 ·
  have old : ∀ q r', q ≠ p ++ [t] → upR T.nd (p ++ [t]) (some x) q = some r' → r'.b < w.heap.size ∧ r'.m < w.heap.size := fun q r' hq e => h.ndlt ((upR_other T.nd (some x) hq).symm.trans e)
  by_cases c1 : q1 = p ++ [t]
  ·
   subst c1
   have e : some x = some r1 := (upR_same T.nd (p ++ [t]) (some x)).symm.trans e1
   injection e with e
   subst e
   have := old q2 r2 (Ne.symm hne) e2
   exact ⟨by omega, by omega⟩
  ·
   by_cases c2 : q2 = p ++ [t]
   ·
    subst c2
    have e : some x = some r2 := (upR_same T.nd (p ++ [t]) (some x)).symm.trans e2
    injection e with e
    subst e
    have := old q1 r1 c1 e1
    exact ⟨by omega, by omega⟩
   ·
    exact h.ind q1 q2 r1 r2 ((upR_other T.nd (some x) c1).symm.trans e1) ((upR_other T.nd (some x) c2).symm.trans e2) hne
 ·
  by_cases c2 : q2 = p ++ [t]
  ·
   subst c2
   have e : some x = some r2 := (upR_same T.nd (p ++ [t]) (some x)).symm.trans e2
   injection e with e
   subst e
   have := (h.lvlt e1).2
   omega
  ·
   exact h.imm q1 q2 r1 r2 e1 ((upR_other T.nd (some x) c2).symm.trans e2)
 ·
  by_cases c : q ++ [u] = p ++ [t]
  ·
   have := (snoc_inj2 c).1
   subst this
   exact some_ne hr
  ·
   exact h.up q u s ((upR_other T.nd (some x) c).symm.trans hs')
 ·
  show upR T.nd (p ++ [t]) (some x) (tk s) ≠ none
  by_cases c : tk s = p ++ [t]
  ·
   rw [c, upR_same]; simp
  ·
   rw [upR_other _ _ c]; exact h.ent s v hv
 ·
  show q = [] ∨ upR T.nd (p ++ [t]) (some x) q ≠ none
  by_cases c : q = p ++ [t]
  ·
   rw [c, upR_same]; exact .inr (by simp)
  ·
   rw [upR_other _ _ c]; exact h.dn q hq
/-- A new level below a node. -/
theorem MemT.addLevel (h : MemT tk N w B T E) (hB : B ≤ w.heap.size) {p : Path} {r x : Rc} (hr : T.nd p = some r) (h0 : T.lv p = none) (x1 : w.heap.size ≤ x.b) (x2 : w.heap.size ≤ x.m)
  (hn : w'.heap[x.b]? = some (.cells #[.map (some x.m), .pointer none, .pointer none] 99 (0, 0))) (hs : NAt N w' x.m (fun _ _ => False))
  (hl : w'.heap[r.b]? = some (.cells #[.pointer (some ⟨x.b, 0, none⟩), .map (some r.m)] 103 (0, 0)))
  (hk : ∀ k, k < w.heap.size → k ≠ r.b → w'.heap[k]? = w.heap[k]?) : MemT tk N w' B ⟨T.nd, upR T.lv p (some x)⟩ E := by
 have hnk : ∀ t, T.nd (p ++ [t]) = none := fun t => by
  cases q : T.nd (p ++ [t]) with
  | none => rfl
  | some s => exact absurd h0 (h.up p t s q)
 refine ⟨fun q s hs' => ?_, fun q s hs' => ?_, fun q1 q2 r1 r2 e1 e2 hne => ?_, h.ind, fun q1 q2 r1 r2 e1 e2 => ?_, fun q u s hs' => ?_, h.ent, fun q hq => ?_⟩
 ·
  by_cases c : q = p
  ·
   subst c
   have e : some x = some s := (upR_same T.lv q (some x)).symm.trans hs'
   injection e with e
   subst e
   refine ⟨Nat.le_trans hB x1, Nat.le_trans hB x2, ?_, hs.congr (fun u d => ⟨fun f => f.elim, fun ⟨_, _, r', hr', _⟩ => ?_⟩)⟩
   ·
    show _ = some (Obj.cells #[_, ptR (T.nd (q ++ [star])), ptR (T.nd (q ++ [gts]))] _ _)
    rw [hnk, hnk]
    exact hn
   ·
    have : T.nd (q ++ [u]) = some r' := hr'
    rw [hnk] at this
    exact absurd this (by simp)
  ·
   have e : T.lv q = some s := (upR_other T.lv (some x) c).symm.trans hs'
   obtain ⟨k1, k2, k3, k4⟩ := h.lvl q s e
   have hk1 := hk s.b (h.lvlt e).1 (h.lvnd e hr)
   have hk2 := hk s.m (h.lvlt e).2 (Ne.symm (h.ndbm hr e))
   exact ⟨k1, k2, hk1.trans k3, k4.keep hk2⟩
 ·
  obtain ⟨k1, k2, k3, k4⟩ := h.nod q s hs'
  by_cases c : q = p
  ·
   subst c
   have e : s = r := by
    have : T.nd q = some s := hs'
    rw [hr] at this
    exact (Option.some.inj this).symm
   subst e
   refine ⟨k1, k2, ?_, k4.keep (hk s.m (h.ndlt hr).2 (Ne.symm (h.ndbn hr hr)))⟩
   show _ = some (Obj.cells #[ptR (upR T.lv q (some x) q), _] _ _)
   rw [upR_same]
   exact hl
  ·
   refine ⟨k1, k2, ?_, k4.keep (hk s.m (h.ndlt hs').2 (Ne.symm (h.ndbn hr hs')))⟩
   show _ = some (Obj.cells #[ptR (upR T.lv p (some x) q), _] _ _)
   rw [upR_other _ _ c, hk s.b (h.ndlt hs').1 (h.ind q p s r hs' hr c).1]
   exact k3
 ·
  have old : ∀ q r', q ≠ p → upR T.lv p (some x) q = some r' → r'.b < w.heap.size ∧ r'.m < w.heap.size := fun q r' hq e => h.lvlt ((upR_other T.lv (some x) hq).symm.trans e)
  by_cases c1 : q1 = p
  ·
   subst c1
   have e : some x = some r1 := (upR_same T.lv q1 (some x)).symm.trans e1
   injection e with e
   subst e
   have := old q2 r2 (Ne.symm hne) e2
   exact ⟨by omega, by omega⟩
  ·
   by_cases c2 : q2 = p
   ·
    subst c2
    have e : some x = some r2 := (upR_same T.lv q2 (some x)).symm.trans e2
    injection e with e
    subst e
    have := old q1 r1 c1 e1
    exact ⟨by omega, by omega⟩
   ·
    exact h.ilv q1 q2 r1 r2 ((upR_other T.lv (some x) c1).symm.trans e1) ((upR_other T.lv (some x) c2).symm.trans e2) hne
 ·
  by_cases c1 : q1 = p
  ·
   subst c1
   have e : some x = some r1 := (upR_same T.lv q1 (some x)).symm.trans e1
   injection e with e
   subst e
   have := (h.ndlt e2).2
   omega
  ·
   exact h.imm q1 q2 r1 r2 ((upR_other T.lv (some x) c1).symm.trans e1) e2
 ·
  show upR T.lv p (some x) q ≠ none
  by_cases c : q = p
  ·
   rw [c, upR_same]; simp
  ·
   rw [upR_other _ _ c]; exact h.up q u s hs'
 ·
  by_cases c : q = p
  ·
   subst c; exact .inr (some_ne hr)
  ·
   exact h.dn q (by have hq' : upR T.lv p (some x) q ≠ none := hq; rw [upR_other _ _ c] at hq'; exact hq')
/-- The values at one place are others. -/
theorem MemT.subs (h : MemT tk N w B T E) {p : Path} {r : Rc} (hr : T.nd p = some r) {E' : List Ent} (hN : N ≤ N') (hm : SAt N' w' r.m (subsAt tk E' p)) (ho : ∀ q, q ≠ p → ∀ v d, subsAt tk E q v d ↔ subsAt tk E' q v d)
  (hE : ∀ s v, (s, v) ∈ E' → (s, v) ∈ E ∨ tk s = p) (hk : ∀ k, k < w.heap.size → k ≠ r.m → w'.heap[k]? = w.heap[k]?) : MemT tk N' w' B T E' := by
 refine ⟨fun q s hs' => ?_, fun q s hs' => ?_, h.ilv, h.ind, h.imm, h.up, fun s v hv => ?_, h.dn⟩
 ·
  obtain ⟨k1, k2, k3, k4⟩ := h.lvl q s hs'
  exact ⟨k1, k2, (hk s.b (h.lvlt hs').1 (h.lvbn hs' hr)).trans k3, (k4.keep (hk s.m (h.lvlt hs').2 (h.imm q p s r hs' hr))).mono hN⟩
 ·
  obtain ⟨k1, k2, k3, k4⟩ := h.nod q s hs'
  refine ⟨k1, k2, (hk s.b (h.ndlt hs').1 (h.ndbn hs' hr)).trans k3, ?_⟩
  by_cases c : q = p
  ·
   subst c
   have e : s = r := by
    rw [hr] at hs'
    exact (Option.some.inj hs').symm
   subst e
   exact hm
  ·
   exact ((k4.keep (hk s.m (h.ndlt hs').2 (h.ind q p s r hs' hr c).2)).mono hN).congr (ho q c)
 ·
  rcases hE s v hv with e | e
  ·
   exact h.ent s v e
  ·
   rw [e]; exact some_ne hr
/-- A node without entries and without nodes below it is taken away. -/
theorem MemT.prune (h : MemT tk N w B T E) {p : Path} {t : ByteArray} {r : Rc} (hr : T.lv p = some r) (he : ∀ s v, (s, v) ∈ E → tk s ≠ p ++ [t]) (hc : ∀ u, T.nd (p ++ [t] ++ [u]) = none)
  (hl : w'.heap[r.b]? = some (.cells #[.map (some r.m), ptR (upR T.nd (p ++ [t]) none (p ++ [star])), ptR (upR T.nd (p ++ [t]) none (p ++ [gts]))] 99 (0, 0)))
  (hm : NAt N w' r.m (kids ⟨upR T.nd (p ++ [t]) none, upR T.lv (p ++ [t]) none⟩ p))
  (hk : ∀ k, k < w.heap.size → k ≠ r.b → k ≠ r.m → w'.heap[k]? = w.heap[k]?) : MemT tk N w' B ⟨upR T.nd (p ++ [t]) none, upR T.lv (p ++ [t]) none⟩ E := by
 have hd : ∀ q, q ≠ p → ∀ u, upR T.nd (p ++ [t]) none (q ++ [u]) = T.nd (q ++ [u]) := fun q hq u => upR_other _ _ (fun e => hq (snoc_inj2 e).1)
 have ol : ∀ q s, upR T.lv (p ++ [t]) none q = some s → q ≠ p ++ [t] ∧ T.lv q = some s := fun q s e => by
  by_cases c : q = p ++ [t]
  ·
   subst c; rw [upR_same] at e; exact absurd e (by simp)
  ·
   rw [upR_other _ _ c] at e; exact ⟨c, e⟩
 have on : ∀ q s, upR T.nd (p ++ [t]) none q = some s → q ≠ p ++ [t] ∧ T.nd q = some s := fun q s e => by
  by_cases c : q = p ++ [t]
  ·
   subst c; rw [upR_same] at e; exact absurd e (by simp)
  ·
   rw [upR_other _ _ c] at e; exact ⟨c, e⟩
 refine ⟨fun q s hs' => ?_, fun q s hs' => ?_, fun q1 q2 r1 r2 e1 e2 hne => h.ilv q1 q2 r1 r2 (ol _ _ e1).2 (ol _ _ e2).2 hne, fun q1 q2 r1 r2 e1 e2 hne => h.ind q1 q2 r1 r2 (on _ _ e1).2 (on _ _ e2).2 hne, fun q1 q2 r1 r2 e1 e2 => h.imm q1 q2 r1 r2 (ol _ _ e1).2 (on _ _ e2).2, fun q u s hs' => ?_, fun s v hv => ?_, fun q hq => ?_⟩
 ·
  obtain ⟨-, e⟩ := ol _ _ hs'
  obtain ⟨k1, k2, k3, k4⟩ := h.lvl q s e
  by_cases c : q = p
  ·
   subst c
   have e' : s = r := by
    rw [hr] at e
    exact (Option.some.inj e).symm
   subst e'
   exact ⟨k1, k2, hl, hm⟩
  ·
   have hk1 := hk s.b (h.lvlt e).1 (h.ilv q p s r e hr c).1 (h.lvbm e hr)
   have hk2 := hk s.m (h.lvlt e).2 (Ne.symm (h.lvbm hr e)) (h.ilv q p s r e hr c).2
   refine ⟨k1, k2, ?_, (k4.keep hk2).congr (fun u d => ?_)⟩
   ·
    rw [hk1, k3]
    show some (Obj.cells #[_, ptR (T.nd (q ++ [star])), ptR (T.nd (q ++ [gts]))] _ _) = some (Obj.cells #[_, ptR (upR T.nd (p ++ [t]) none (q ++ [star])), ptR (upR T.nd (p ++ [t]) none (q ++ [gts]))] _ _)
    rw [hd q c, hd q c]
   ·
    show _ ↔ (u ≠ star ∧ u ≠ gts ∧ ∃ r', upR T.nd (p ++ [t]) none (q ++ [u]) = some r' ∧ d = nl r'.b)
    rw [hd q c]
    exact Iff.rfl
 ·
  obtain ⟨cq, e⟩ := on _ _ hs'
  obtain ⟨k1, k2, k3, k4⟩ := h.nod q s e
  have hk1 := hk s.b (h.ndlt e).1 (Ne.symm (h.lvnd hr e)) (h.ndbm e hr)
  have hk2 := hk s.m (h.ndlt e).2 (Ne.symm (h.lvbn hr e)) (Ne.symm (h.imm p q r s hr e))
  refine ⟨k1, k2, ?_, k4.keep hk2⟩
  show _ = some (Obj.cells #[ptR (upR T.lv (p ++ [t]) none q), _] _ _)
  rw [upR_other _ _ cq]
  exact hk1.trans k3
 ·
  obtain ⟨cq, e⟩ := on _ _ hs'
  have := h.up q u s e
  show upR T.lv (p ++ [t]) none q ≠ none
  by_cases c : q = p ++ [t]
  ·
   subst c
   rw [hc u] at e
   exact absurd e (by simp)
  ·
   rw [upR_other _ _ c]; exact this
 ·
  show upR T.nd (p ++ [t]) none (tk s) ≠ none
  rw [upR_other _ _ (he s v hv)]
  exact h.ent s v hv
 ·
  have hq' : upR T.lv (p ++ [t]) none q ≠ none := hq
  by_cases c : q = p ++ [t]
  ·
   subst c; rw [upR_same] at hq'; exact absurd rfl hq'
  ·
   rw [upR_other _ _ c] at hq'
   show q = [] ∨ upR T.nd (p ++ [t]) none q ≠ none
   rw [upR_other _ _ c]
   exact h.dn q hq'
end
/-! ### the list's head; its lock -/
@[reducible] def headC (lk rc : Int) (root : Nat) (cnt : Int) : Array Value := #[.int .i32 lk, .int .u32 0, .int .u32 0, .int .u32 0, .int .i32 rc, .int .i32 0, .pointer (some ⟨root, 0, none⟩), .int .u32 cnt]
@[reducible] def HeadAt (w : World) (hb : Nat) (lk rc : Int) (root : Nat) (cnt : Int) : Prop := w.heap[hb]? = some (.cells (headC lk rc root cnt) 87 (0, 0))
theorem not_frozen {w : World} {b : Nat} {c : Array Value} {T : TypeId} (h : w.heap[b]? = some (.cells c T (0, 0))) (j : Nat) : w.frozen? ⟨b, j, none⟩ = false := by
 unfold World.frozen?
 rw [h]
 simp
theorem HeadAt.cell {w : World} {hb : Nat} {lk rc : Int} {root : Nat} {cnt : Int} (h : HeadAt w hb lk rc root cnt) (j : Nat) (v : Value) (hv : (headC lk rc root cnt)[j]? = some v) : w.cell? ⟨hb, j, none⟩ = some v := (cell_of_row w hb j _ _ _ h).trans hv
theorem grown_two {w a b : World} {g : Nat} (h : w.grownBy a (some g)) (k : a.grownBy b (some g)) : w.grownBy b (some g) := h.andThen k (fun _ e => .inr e)
theorem lock_calls (w : World) (hb root : Nat) (cnt : Int) (h : HeadAt w hb 0 0 root cnt) :
  Calls Tryd.prog 59 #[.pointer (some ⟨hb, 0, none⟩)] w fun e w' => e = .returned (.tuple #[]) ∧ HeadAt w' hb 1 (-1073741824) root cnt ∧ w.grownBy w' (some hb) := by
 refine Calls.mono (Go.RwLone.wlock_free rwWLib hb 0 (.int .u32 0) (.int .u32 0) w (h.cell 0 _ rfl) (h.cell 2 _ rfl) (h.cell 3 _ rfl) (h.cell 4 _ rfl) (not_frozen h 0) (not_frozen h 4)) ?_
 rintro e w' ⟨rfl, rfl⟩
 exact ⟨rfl, Road.setCell_same_heap 4 _ (Road.setCell_same_heap 0 _ h), grown_two (grown_setCell w hb 0 _) (grown_setCell _ hb 4 _)⟩
theorem unlock_calls (w : World) (hb root : Nat) (cnt : Int) (h : HeadAt w hb 1 (-1073741824) root cnt) :
  Calls Tryd.prog 61 #[.pointer (some ⟨hb, 0, none⟩)] w fun e w' => e = .returned (.tuple #[]) ∧ HeadAt w' hb 0 0 root cnt ∧ w.grownBy w' (some hb) := by
 refine Calls.mono (Go.RwLone.wunlock_held rwWLib hb 0 (.int .u32 0) (.int .u32 0) w (h.cell 0 _ rfl) (h.cell 2 _ rfl) (h.cell 3 _ rfl) (h.cell 4 _ rfl) (not_frozen h 0) (not_frozen h 4)) ?_
 rintro e w' ⟨rfl, rfl⟩
 exact ⟨rfl, Road.setCell_same_heap 0 _ (Road.setCell_same_heap 4 _ h), grown_two (grown_setCell w hb 4 _) (grown_setCell _ hb 0 _)⟩
theorem unlock_calls_d (u : FrameMode) (w : World) (hb root : Nat) (cnt : Int) (h : HeadAt w hb 1 (-1073741824) root cnt) :
  CallsD Tryd.prog 61 #[.pointer (some ⟨hb, 0, none⟩)] u w fun e u' w' => u' = u ∧ (e = .returned (.tuple #[]) ∧ HeadAt w' hb 0 0 root cnt ∧ w.grownBy w' (some hb)) := by
 refine CallsD.mono (Go.RwLone.wunlock_deferred rwWLib hb 0 (.int .u32 0) (.int .u32 0) u w (h.cell 0 _ rfl) (h.cell 2 _ rfl) (h.cell 3 _ rfl) (h.cell 4 _ rfl) (not_frozen h 0) (not_frozen h 4)) ?_
 rintro e u' w' ⟨rfl, rfl, rfl⟩
 exact ⟨rfl, rfl, Road.setCell_same_heap 0 _ (Road.setCell_same_heap 4 _ h), grown_two (grown_setCell w hb 4 _) (grown_setCell _ hb 0 _)⟩
theorem w01 : wrap32 (0 + 1) = 1 := by unfold wrap32; decide
theorem w10 : wrap32 (1 + -1) = 0 := by unfold wrap32; decide
theorem rlock_calls (w : World) (hb root : Nat) (cnt : Int) (h : HeadAt w hb 0 0 root cnt) :
  Calls Tryd.prog 51 #[.pointer (some ⟨hb, 0, none⟩)] w fun e w' => e = .returned (.tuple #[]) ∧ HeadAt w' hb 0 1 root cnt ∧ w.grownBy w' (some hb) := by
 refine Calls.mono (Go.RwLone.rlock_open rwRLib hb 0 0 (.int .i32 0) (.int .u32 0) w (h.cell 0 _ rfl) (h.cell 3 _ rfl) (h.cell 4 _ rfl) (not_frozen h 4) (by rw [w01]; decide)) ?_
 rintro e w' ⟨rfl, rfl⟩
 rw [w01]
 exact ⟨rfl, Road.setCell_same_heap 4 _ h, grown_setCell w hb 4 _⟩
theorem runlock_calls_d (u : FrameMode) (w : World) (hb root : Nat) (cnt : Int) (h : HeadAt w hb 0 1 root cnt) :
  CallsD Tryd.prog 52 #[.pointer (some ⟨hb, 0, none⟩)] u w fun e u' w' => u' = u ∧ (e = .returned (.tuple #[]) ∧ HeadAt w' hb 0 0 root cnt ∧ w.grownBy w' (some hb)) := by
 refine CallsD.mono (Go.RwLone.runlock_deferred rwRLib hb 0 1 (.int .i32 0) (.int .u32 0) u w (h.cell 0 _ rfl) (h.cell 2 _ rfl) (h.cell 4 _ rfl) (not_frozen h 4) (by rw [w10]; decide)) ?_
 rintro e u' w' ⟨rfl, rfl, rfl⟩
 rw [w10]
 exact ⟨rfl, rfl, Road.setCell_same_heap 4 _ h, grown_setCell w hb 4 _⟩
/-! ### the small functions -/
theorem one_nil (w : World) : Calls Tryd.prog 48 #[Value.nilIface] w fun en w' => en = .returned (.int .i64 0) ∧ w' = w := by
 go_enter Tryd.func48, Tryd.ntmps48
 go_wp2_with fail
 go_ret
 exact ⟨rfl, rfl⟩
theorem one_err (t : TypeId) (v : Value) (w : World) : Calls Tryd.prog 48 #[.iface t v] w fun en w' => en = .returned (.int .i64 1) ∧ w' = w := by
 go_enter Tryd.func48, Tryd.ntmps48
 go_wp2_with fail
 go_ret
 exact ⟨rfl, rfl⟩
set_option maxRecDepth 100000 in
theorem newLevel_calls (w : World) : Calls Tryd.prog 58 #[] w fun e w' => ∃ x : Rc, e = .returned (.pointer (some ⟨x.b, 0, none⟩)) ∧ w.heap.size ≤ x.b ∧ w.heap.size ≤ x.m ∧ w'.heap[x.b]? = some (.cells #[.map (some x.m), .pointer none, .pointer none] 99 (0, 0)) ∧ NAt 0 w' x.m (fun _ _ => False) ∧ Below w.heap.size w w' := by
 have hmm := @run_makeMap Tryd.prog
 go_enter Tryd.func58, Tryd.ntmps58
 go_wp2_with fail
 go_ret
 have s1 : (w.alloc (.map #[] 0)).heap.size = w.heap.size + 1 := by simp
 refine ⟨⟨w.heap.size + 1, w.heap.size⟩, rfl, Nat.le_succ _, Nat.le_refl _, ?_, ⟨.map [], ?_, MapIs.empty⟩, below_alloc (below_alloc (Below.refl _ _) _) _⟩
 ·
  have := heap_alloc_new (w.alloc (.map #[] 0)) (.cells #[.map (some w.heap.size), .pointer none, .pointer none] 99 (0, 0))
  rw [s1] at this
  exact this
 ·
  exact (World.ownsMap_made w _ _ _).alloc _
set_option maxRecDepth 100000 in
theorem newNode_calls (w : World) : Calls Tryd.prog 62 #[] w fun e w' => ∃ x : Rc, e = .returned (.pointer (some ⟨x.b, 0, none⟩)) ∧ w.heap.size ≤ x.b ∧ w.heap.size ≤ x.m ∧ w'.heap[x.b]? = some (.cells #[.pointer none, .map (some x.m)] 103 (0, 0)) ∧ SAt 0 w' x.m (fun _ _ => False) ∧ Below w.heap.size w w' := by
 have hmm := @run_makeMap Tryd.prog
 go_enter Tryd.func62, Tryd.ntmps62
 go_wp2_with fail
 go_ret
 have s1 : (w.alloc (.map #[] 0)).heap.size = w.heap.size + 1 := by simp
 refine ⟨⟨w.heap.size + 1, w.heap.size⟩, rfl, Nat.le_succ _, Nat.le_refl _, ?_, ⟨.map [], ?_, MapIs.empty⟩, below_alloc (below_alloc (Below.refl _ _) _) _⟩
 ·
  have := heap_alloc_new (w.alloc (.map #[] 0)) (.cells #[.pointer none, .map (some w.heap.size)] 103 (0, 0))
  rw [s1] at this
  exact this
 ·
  exact (World.ownsMap_made w _ _ _).alloc _
def T0 (x : Rc) : Trie := ⟨fun _ => none, fun p => if p = [] then some x else none⟩
set_option maxRecDepth 100000 in
theorem new_calls (tk : ByteArray → Path) (w : World) : Calls Tryd.prog 47 #[] w fun e w' => ∃ (hb : Nat) (x : Rc), e = .returned (.pointer (some ⟨hb, 0, none⟩)) ∧ w.heap.size ≤ hb ∧ HeadAt w' hb 0 0 x.b 0 ∧ MemT tk 0 w' w.heap.size (T0 x) [] ∧ Below w.heap.size w w' := by
 have HL := Aside0.mk (newLevel_calls w)
 go_enter Tryd.func47, Tryd.ntmps47
 go_wp2_with fail
 refine HL.out.mono ?_
 rintro en w1 ⟨x, rfl, x1, x2, x3, x4, xb⟩
 have H1 := Aside0.mk (And.intro x1 (And.intro x2 (And.intro x3 (And.intro x4 xb))))
 clear x1 x2 x3 x4 xb HL
 go_wp2_with fail
 go_ret
 obtain ⟨x1, x2, x3, x4, xb⟩ := H1.out
 refine ⟨w1.heap.size, x, rfl, xb.size, heap_alloc_new w1 _, ?_, below_alloc xb _⟩
 have kb : ∀ k, k < w1.heap.size → ∀ o, (w1.alloc o).heap[k]? = w1.heap[k]? := fun k hk o => (below_alloc (Below.refl w1.heap.size w1) o).block k hk
 have e0 : ∀ p r, (T0 x).lv p = some r → p = [] ∧ x = r := fun p r h => by
  have h' : (if p = [] then some x else none) = some r := h
  split at h'
  ·
   rename_i c; exact ⟨c, Option.some.inj h'⟩
  ·
   cases h'
 refine ⟨fun p r hr => ?_, fun p r hr => absurd (show (none : Option Rc) = some r from hr) (by simp), fun p q r s hr hs hne => absurd ((e0 p r hr).1.trans (e0 q s hs).1.symm) hne, fun p q r s hr => absurd (show (none : Option Rc) = some r from hr) (by simp), fun p q r s _ hs => absurd (show (none : Option Rc) = some s from hs) (by simp), fun p t r hr => absurd (show (none : Option Rc) = some r from hr) (by simp), fun s v h => by simp at h, fun p hp => ?_⟩
 ·
  obtain ⟨rfl, rfl⟩ := e0 p r hr
  obtain ⟨es, c, x5⟩ := x4.obj
  exact ⟨x1, x2, (kb _ (lt_some x3) _).trans x3, (x4.keep (kb _ (lt_some x5) _)).congr (fun t d => ⟨fun f => f.elim, fun ⟨_, _, r', h, _⟩ => absurd (show (none : Option Rc) = some r' from h) (by simp)⟩)⟩
 ·
  cases q : (T0 x).lv p with
  | none => exact absurd q hp
  | some r => exact .inl (e0 p r q).1
theorem wrap32u (n m : Int) (h : n = m) (h0 : 0 ≤ m) (h1 : m < 4294967296) : IntKind.u32.wrap n = m := by
 subst h
 simp [IntKind.wrap, IntKind.signed, IntKind.bits]
 omega
set_option maxRecDepth 100000 in
theorem count_calls (w : World) (hb root : Nat) (cnt : Int) (h : HeadAt w hb 0 0 root cnt) : Calls Tryd.prog 41 #[.pointer (some ⟨hb, 0, none⟩)] w fun e w' => e = .returned (.int .u32 cnt) ∧ HeadAt w' hb 0 0 root cnt ∧ w.grownBy w' (some hb) := by
 have HL := Aside0.mk (rlock_calls w hb root cnt h)
 clear h
 go_enter_defers Tryd.func41, Tryd.ntmps41
 go_wp2_with fail
 refine HL.out.mono ?_
 rintro en w1 ⟨rfl, h1, g1⟩
 have c7 := h1.cell 7 _ rfl
 have H1 := Aside0.mk (And.intro h1 g1)
 clear h1 g1 HL
 go_wp2_with fail
 refine leaves_cons (f := 52) (args := #[.pointer (some ⟨hb, 0, none⟩)]) (by simp) (by simp [go_sem]) ?_
 refine (runlock_calls_d .returning _ hb root cnt H1.out.1).mono ?_
 rintro e u' w2 ⟨rfl, rfl, h2, g2⟩
 exact ⟨_, results_tmp rfl _ _ _, rfl, h2, grown_two H1.out.2 g2⟩
/-! ### Insert -/
theorem RS_keep {w w' : World} {base : Nat} {ok : Nat → Prop} {v : Value} {l : List ByteArray} (h : Kd.R Kd.string 9 w base ok v l) (hk : ∀ (k : Nat) (o : Obj), w.heap[k]? = some o → wl o = false → w'.heap[k]? = some o) : Kd.R Kd.string 9 w' base ok v l := by
 refine Kd.R_mono (Kd.R_move (Kd.R_bound h) (fun k hk' => ?_)) (fun _ q => q.1)
 obtain ⟨_, _, _, q, hq, cells, hc⟩ := hk'
 rw [hc]
 refine hk k _ hc ?_
 have : q = 9 := by simpa [Kd.string, Kd.scalar] using hq
 rw [this]
 rfl
theorem CS_at {w : World} {A : Option Addr} {n : Nat} {ys : List ByteArray} (h : Kd.C Kd.string w A n ys) (i : Nat) (h1 : i < n) : ∃ ad, A = some ad ∧ w.cell? (ad.add i) = some (.string (ys.getD i ByteArray.empty)) := by
 obtain ⟨ad, e, hc⟩ := Kd.at_string h (i : Int) (by omega) (by omega)
 exact ⟨ad, e, hc⟩
/-- The tokens of what can be put into a list. -/
structure TkOk (l : Path) : Prop where
 ne : l ≠ []
 len : l.length < 1000000
 tok : ∀ i, i < l.length → (l.getD i ByteArray.empty).size ≠ 0 ∧ okS (l.getD i ByteArray.empty)
 last : ∀ i, i < l.length → l.getD i ByteArray.empty = gts → i + 1 = l.length
theorem take_snoc {l : Path} {i : Nat} (h : i < l.length) : l.take (i + 1) = l.take i ++ [l.getD i ByteArray.empty] := by
 rw [List.take_add_one, List.getD_eq_getElem?_getD, List.getElem?_eq_getElem h]
 rfl
section
variable {tk : ByteArray → Path} {N B : Nat} {w w3 w4 : World} {T : Trie} {E : List Ent}
theorem MemT.linkF (h : MemT tk N w B T E) (hB : B ≤ w.heap.size) {p : Path} {t : ByteArray} {r x : Rc} (hr : T.lv p = some r) (h0 : T.nd (p ++ [t]) = none) (x1 : w.heap.size ≤ x.b) (x2 : w.heap.size ≤ x.m)
  (x3 : w3.heap[x.b]? = some (.cells #[.pointer none, .map (some x.m)] 103 (0, 0))) (x4 : SAt 0 w3 x.m (fun _ _ => False)) (xb : Below w.heap.size w w3) (ht : t = star ∨ t = gts)
  (hg : w3.grownBy w4 (some r.b)) (hl : w4.heap[r.b]? = some (.cells #[.map (some r.m), ptR (upR T.nd (p ++ [t]) (some x) (p ++ [star])), ptR (upR T.nd (p ++ [t]) (some x) (p ++ [gts]))] 99 (0, 0))) :
  MemT tk N w4 B ⟨upR T.nd (p ++ [t]) (some x), T.lv⟩ E := by
 obtain ⟨k1, k2, k3, k4⟩ := h.lvl p r hr
 obtain ⟨l1, l2⟩ := h.lvlt hr
 obtain ⟨es, c, x5⟩ := x4.obj
 have g : ∀ k, k < w3.heap.size → k ≠ r.b → w4.heap[k]? = w3.heap[k]? := fun k hk hne => hg.block k hk (fun e => hne (by injection e))
 have hne : r.m ≠ r.b := Ne.symm (h.lvbm hr hr)
 refine h.addNode hB hr h0 (Nat.le_refl _) x1 x2 ((g _ (lt_some x3) (by omega)).trans x3) ((x4.keep (g _ (lt_some x5) (by omega))).mono (Nat.zero_le _)) hl ?_ (fun k hk hn hm => (g k (Nat.lt_of_lt_of_le hk xb.size) hn).trans (xb.block k hk))
 refine (k4.keep ((g _ (Nat.lt_of_lt_of_le l2 xb.size) hne).trans (xb.block _ l2))).congr (fun u d => ?_)
 show (u ≠ star ∧ u ≠ gts ∧ ∃ r', T.nd (p ++ [u]) = some r' ∧ d = nl r'.b) ↔ (u ≠ star ∧ u ≠ gts ∧ ∃ r', upR T.nd (p ++ [t]) (some x) (p ++ [u]) = some r' ∧ d = nl r'.b)
 by_cases c : u = t
 ·
  subst c
  rcases ht with rfl | rfl
  ·
   exact ⟨fun q => absurd rfl q.1, fun q => absurd rfl q.1⟩
  ·
   exact ⟨fun q => absurd rfl q.2.1, fun q => absurd rfl q.2.1⟩
 ·
  rw [upR_other _ _ (fun e => c (snoc_inj.1 e))]
theorem MemT.linkM (h : MemT tk N w B T E) (hB : B ≤ w.heap.size) {p : Path} {t : ByteArray} {r x : Rc} (hr : T.lv p = some r) (h0 : T.nd (p ++ [t]) = none) (x1 : w.heap.size ≤ x.b) (x2 : w.heap.size ≤ x.m)
  (x3 : w3.heap[x.b]? = some (.cells #[.pointer none, .map (some x.m)] 103 (0, 0))) (x4 : SAt 0 w3 x.m (fun _ _ => False)) (xb : Below w.heap.size w w3) (h1 : t ≠ star) (h2 : t ≠ gts)
  (hg : w3.grownBy w4 (some r.m)) (hm : NAt (N + 1) w4 r.m (fun y z => (y ≠ t ∧ kids T p y z) ∨ (y = t ∧ z = nl x.b))) :
  MemT tk (N + 1) w4 B ⟨upR T.nd (p ++ [t]) (some x), T.lv⟩ E := by
 obtain ⟨k1, k2, k3, k4⟩ := h.lvl p r hr
 obtain ⟨l1, l2⟩ := h.lvlt hr
 obtain ⟨es, c, x5⟩ := x4.obj
 have g : ∀ k, k < w3.heap.size → k ≠ r.m → w4.heap[k]? = w3.heap[k]? := fun k hk hne => hg.block k hk (fun e => hne (by injection e))
 have hne : r.b ≠ r.m := h.lvbm hr hr
 refine h.addNode hB hr h0 (Nat.le_succ _) x1 x2 ((g _ (lt_some x3) (by omega)).trans x3) ((x4.keep (g _ (lt_some x5) (by omega))).mono (Nat.zero_le _)) ?_ ?_ (fun k hk hn hm => (g k (Nat.lt_of_lt_of_le hk xb.size) hm).trans (xb.block k hk))
 ·
  rw [upR_other _ _ (fun e => h1 (snoc_inj.1 e).symm), upR_other _ _ (fun e => h2 (snoc_inj.1 e).symm)]
  exact ((g _ (Nat.lt_of_lt_of_le l1 xb.size) hne).trans (xb.block _ l1)).trans k3
 ·
  refine hm.congr (fun u d => ?_)
  show _ ↔ (u ≠ star ∧ u ≠ gts ∧ ∃ r', upR T.nd (p ++ [t]) (some x) (p ++ [u]) = some r' ∧ d = nl r'.b)
  by_cases c : u = t
  ·
   subst c
   rw [upR_same]
   exact ⟨fun q => ⟨h1, h2, x, rfl, (q.resolve_left (fun z => z.1 rfl)).2⟩, fun ⟨_, _, r', e, e'⟩ => .inr ⟨rfl, by injection e with e; subst e; exact e'⟩⟩
  ·
   rw [upR_other _ _ (fun e => c (snoc_inj.1 e))]
   exact ⟨fun q => (q.resolve_right (fun z => c z.1)).2, fun q => .inl ⟨c, q⟩⟩
end
/-- The way down of an insertion. -/
structure InsI (tk : ByteArray → Path) (N B hb root : Nat) (cnt : Int) (E : List Ent) (w : World) (tks : Path) (base : Nat) (v : Value) (i : Nat) (T : Trie) (wr : World) : Prop where
 mem : MemT tk (N + i) wr B T E
 head : HeadAt wr hb 1 (-1073741824) root cnt
 ch : ChL B w wr
 row : Kd.R Kd.string 9 wr base (fun _ => True) v tks
 lvl : T.lv (tks.take i) ≠ none
 node : 0 < i → T.nd (tks.take i) ≠ none
 full : ∀ p, T.nd p ≠ none → T.lv p ≠ none
 live : ∀ p, T.nd p ≠ none → (∃ e ∈ E, p <+: tk e.1) ∨ p <+: tks
 nil : T.nd [] = none
 rt : ∃ m, T.lv [] = some ⟨root, m⟩
/-- What a list is between its calls. -/
structure LogT (tk : ByteArray → Path) (root : Nat) (T : Trie) (E : List Ent) : Prop where
 full : ∀ p, T.nd p ≠ none → T.lv p ≠ none
 live : ∀ p, T.nd p ≠ none → ∃ e ∈ E, p <+: tk e.1
 nil : T.nd [] = none
 rt : ∃ m, T.lv [] = some ⟨root, m⟩
 nd : E.Nodup
 ok : ∀ e ∈ E, TkOk (tk e.1) ∧ okS e.1 ∧ okI e.2
def ListAt (tk : ByteArray → Path) (N : Nat) (w : World) (B hb : Nat) (E : List Ent) : Prop := ∃ root T, HeadAt w hb 0 0 root (E.length : Int) ∧ MemT tk N w B T E ∧ LogT tk root T E
theorem HeadAt.keepM {w w' : World} {hb : Nat} {lk rc : Int} {root : Nat} {cnt : Int} (h : HeadAt w hb lk rc root cnt) (hk : w'.heap[hb]? = w.heap[hb]?) : HeadAt w' hb lk rc root cnt := hk.trans h
/-- Only the head's block is another. -/
theorem MemT.keepH {tk : ByteArray → Path} {N B hb : Nat} {w w' : World} {T : Trie} {E : List Ent} {c : Array Value} (h : MemT tk N w B T E) (hh : w.heap[hb]? = some (.cells c 87 (0, 0))) (hg : w.grownBy w' (some hb)) : MemT tk N w' B T E :=
 h.keep (fun k o ho hk => (hg.block k (lt_some ho) (fun e => by
  injection e with e
  subst e
  rw [hh] at ho
  injection ho with ho
  rw [← ho] at hk
  exact absurd hk (by simp [wm]))).trans ho)
/-! ### one step down -/
section
variable {tk : ByteArray → Path} {N B hb root : Nat} {cnt : Int} {E : List Ent} {w : World} {tks : Path} {base : Nat} {v : Value} {i : Nat} {T : Trie} {wr : World}
theorem InsI.same (h : InsI tk N B hb root cnt E w tks base v i T wr) (hi : i < tks.length) {q : Rc} (hq : T.nd (tks.take i ++ [tks.getD i ByteArray.empty]) = some q) : InsI tk N B hb root cnt E w tks base v (i + 1) T wr := by
 have e := take_snoc hi
 refine ⟨h.mem.mono (by omega), h.head, h.ch, h.row, ?_, fun _ => ?_, h.full, h.live, h.nil, h.rt⟩
 ·
  rw [e]; exact h.full _ (some_ne hq)
 ·
  rw [e]; exact some_ne hq
theorem InsI.grow (h : InsI tk N B hb root cnt E w tks base v i T wr) (hi : i < tks.length) (hBw : B ≤ wr.heap.size) {t : ByteArray} (ht : t = tks.getD i ByteArray.empty) {x y : Rc} {w4 w5 : World}
  (hM : MemT tk (N + i + 1) w4 B ⟨upR T.nd (tks.take i ++ [t]) (some x), T.lv⟩ E) (hch : ChL B wr w4) (hh : HeadAt w4 hb 1 (-1073741824) root cnt) (h0 : T.nd (tks.take i ++ [t]) = none)
  (y1 : w4.heap.size ≤ y.b) (y2 : w4.heap.size ≤ y.m) (y3 : w5.heap[y.b]? = some (.cells #[.map (some y.m), .pointer none, .pointer none] 99 (0, 0))) (y4 : NAt 0 w5 y.m (fun _ _ => False)) (yb : Below w4.heap.size w4 w5) :
  InsI tk N B hb root cnt E w tks base v (i + 1) ⟨upR T.nd (tks.take i ++ [t]) (some x), upR T.lv (tks.take i ++ [t]) (some y)⟩ (w5.setCell ⟨x.b, 0, none⟩ (.pointer (some ⟨y.b, 0, none⟩))) := by
 have e := take_snoc hi
 rw [← ht] at e
 have hlv0 : T.lv (tks.take i ++ [t]) = none := by
  cases q : T.lv (tks.take i ++ [t]) with
  | none => rfl
  | some s =>
   rcases h.mem.dn _ (some_ne q) with f | f
   ·
    exact absurd f (by simp)
   ·
    exact absurd h0 f
 have hx : (upR T.nd (tks.take i ++ [t]) (some x)) (tks.take i ++ [t]) = some x := upR_same _ _ _
 obtain ⟨k1, k2, k3, k4⟩ := hM.nod _ x hx
 have k3' : w4.heap[x.b]? = some (.cells #[.pointer none, .map (some x.m)] 103 (0, 0)) := by
  have k3b : w4.heap[x.b]? = some (.cells #[ptR (T.lv (tks.take i ++ [t])), .map (some x.m)] 103 (0, 0)) := k3
  rw [hlv0] at k3b
  exact k3b
 have kx5 : w5.heap[x.b]? = some (.cells #[.pointer none, .map (some x.m)] 103 (0, 0)) := (yb.block _ (lt_some k3')).trans k3'
 have hg := grown_setCell w5 x.b 0 (.pointer (some ⟨y.b, 0, none⟩))
 obtain ⟨es, c, y5⟩ := y4.obj
 have g : ∀ k, k < w5.heap.size → k ≠ x.b → (w5.setCell ⟨x.b, 0, none⟩ (.pointer (some ⟨y.b, 0, none⟩))).heap[k]? = w5.heap[k]? := fun k hk hne => hg.block k hk (fun e => hne (by injection e))
 have hxl := lt_some k3'
 have hB4 : B ≤ w4.heap.size := Nat.le_trans hBw hch.size
 have hch6 : ChL B w4 (w5.setCell ⟨x.b, 0, none⟩ (.pointer (some ⟨y.b, 0, none⟩))) := (ChL.of_below yb).trans (ChL.set k1 kx5 rfl hg)
 have hne : hb ≠ x.b := ne_obj hh k3' (cells_ne (by decide))
 have hmem := hM.addLevel hB4 hx hlv0 y1 y2 ((g _ (lt_some y3) (by omega)).trans y3) (((y4.keep (g _ (lt_some y5) (by omega)))).mono (Nat.zero_le _)) (Road.setCell_same_heap 0 _ kx5) (fun k hk hn => (g k (Nat.lt_of_lt_of_le hk yb.size) hn).trans (yb.block k hk))
 refine ⟨hmem, ((g _ (Nat.lt_of_lt_of_le (lt_some hh) yb.size) hne).trans (yb.block _ (lt_some hh))).trans hh, h.ch.trans (hch.trans hch6), RS_keep h.row (hch.trans hch6).typ, ?_, fun _ => ?_, fun p hp => ?_, fun p hp => ?_, ?_, ?_⟩
 ·
  rw [e]
  show upR T.lv (tks.take i ++ [t]) (some y) (tks.take i ++ [t]) ≠ none
  rw [upR_same]; simp
 ·
  rw [e]
  show upR T.nd (tks.take i ++ [t]) (some x) (tks.take i ++ [t]) ≠ none
  rw [upR_same]; simp
 ·
  have hp' : upR T.nd (tks.take i ++ [t]) (some x) p ≠ none := hp
  show upR T.lv (tks.take i ++ [t]) (some y) p ≠ none
  by_cases c : p = tks.take i ++ [t]
  ·
   rw [c, upR_same]; simp
  ·
   rw [upR_other _ _ c] at hp' ⊢
   exact h.full p hp'
 ·
  have hp' : upR T.nd (tks.take i ++ [t]) (some x) p ≠ none := hp
  by_cases c : p = tks.take i ++ [t]
  ·
   right
   rw [c, ← e]
   exact List.take_prefix _ _
  ·
   rw [upR_other _ _ c] at hp'
   exact h.live p hp'
 ·
  show upR T.nd (tks.take i ++ [t]) (some x) [] = none
  rw [upR_other _ _ (by simp)]
  exact h.nil
 ·
  obtain ⟨m, hm⟩ := h.rt
  refine ⟨m, ?_⟩
  show upR T.lv (tks.take i ++ [t]) (some y) [] = _
  rw [upR_other _ _ (by simp)]
  exact hm
theorem InsI.chF (h : InsI tk N B hb root cnt E w tks base v i T wr) {w3 w4 : World} {r : Rc} (hr : T.lv (tks.take i) = some r) (xb : Below wr.heap.size wr w3) (hg : w3.grownBy w4 (some r.b)) : ChL B wr w4 ∧ HeadAt w4 hb 1 (-1073741824) root cnt := by
 obtain ⟨k1, k2, k3, k4⟩ := h.mem.lvl _ r hr
 have k3' := (xb.block _ (lt_some k3)).trans k3
 have hh := (xb.block _ (lt_some h.head)).trans h.head
 exact ⟨(ChL.of_below xb).trans (ChL.set k1 k3' rfl hg), (hg.block _ (lt_some hh) (fun e => ne_obj hh k3' (cells_ne (by decide)) (by injection e))).trans hh⟩
theorem InsI.chM (h : InsI tk N B hb root cnt E w tks base v i T wr) {w3 w4 : World} {r : Rc} (hr : T.lv (tks.take i) = some r) (xb : Below wr.heap.size wr w3) (hg : w3.grownBy w4 (some r.m)) : ChL B wr w4 ∧ HeadAt w4 hb 1 (-1073741824) root cnt := by
 obtain ⟨k1, k2, k3, k4⟩ := h.mem.lvl _ r hr
 obtain ⟨es, c, k5⟩ := k4.obj
 have k5' := (xb.block _ (lt_some k5)).trans k5
 have hh := (xb.block _ (lt_some h.head)).trans h.head
 exact ⟨(ChL.of_below xb).trans (ChL.set k2 k5' rfl hg), (hg.block _ (lt_some hh) (fun e => ne_obj hh k5' map_ne (by injection e))).trans hh⟩
end

end Go.Proofs.YtcnbnljlopopkaaDoor.LsA

-- thin
