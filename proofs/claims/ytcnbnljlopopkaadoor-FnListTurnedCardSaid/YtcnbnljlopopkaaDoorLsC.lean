/- WALKS: a subscription is taken out of a list of interest. -/
import Derived.Test.YtcnbnljlopopkaaDoorProg
import Derived.Below
import Derived.Deep.Draws
import Derived.Deep.AppendLies
import Derived.Maps.AppendAt
import Derived.OwnWalk
import Derived.Laws.BytesArg
import Derived.Laws.MakeOwn
import Derived.Laws.OwnMore
import Derived.Deep.OwnRows
import Derived.Tactics
import Derived.Lib.ConvBytes
import Derived.Laws.Slices
import Derived.WalkKit
import Derived.KernelRfl
import Derived.RowKit3
import Derived.Deep.LoopGhost
import Derived.Deep.QuietTactic
import Derived.BigQuiet
import Derived.WideLaws
import Derived.Deep.DeepCutAuto
import Derived.Deep.CutBlock
import Derived.Deep.RegionHeld3
import Derived.Laws.Rows
import Derived.Lib.AppendStr
import Derived.ArgAppend
import Derived.Laws.IdiomCopy
import Derived.OrdersHeld
import Derived.Laws.BitsLemmas
import Derived.RowKit
import Derived.Test.YtcnbnljlopopkaaDoorWWords
import Derived.Test.YtcnbnljlopopkaaDoorWLast
import Derived.Test.YtcnbnljlopopkaaDoorWTab
import Derived.Test.YtcnbnljlopopkaaDoorWFour
import Derived.Test.YtcnbnljlopopkaaDoorWQPut
import Derived.Test.YtcnbnljlopopkaaDoorWApart
import Derived.Test.YtcnbnljlopopkaaDoorWArr
import Derived.Test.YtcnbnljlopopkaaDoorWZeros
import Derived.Test.YtcnbnljlopopkaaDoorWFoot
import Derived.Test.YtcnbnljlopopkaaDoorWKept
import Derived.Test.YtcnbnljlopopkaaDoorWShare
import Derived.Test.YtcnbnljlopopkaaDoorWN
import Derived.Test.YtcnbnljlopopkaaDoorWFootNe
import Derived.Test.YtcnbnljlopopkaaDoorWAt
import Derived.Test.YtcnbnljlopopkaaDoorWEqStruct
import Derived.Test.YtcnbnljlopopkaaDoorWRepsOne
import Derived.Test.YtcnbnljlopopkaaDoorWInv
import Derived.Test.YtcnbnljlopopkaaDoorWInvWords
import Derived.Test.YtcnbnljlopopkaaDoorWGuard
import Derived.Test.YtcnbnljlopopkaaDoorWNEv
import Derived.Test.YtcnbnljlopopkaaDoorWMore
import Derived.Test.YtcnbnljlopopkaaDoorLsB
namespace Go.Proofs.YtcnbnljlopopkaaDoor.LsC
open Go.RowKit Go.Proofs.YtcnbnljlopopkaaDoorW.PrintWords Go.Proofs.YtcnbnljlopopkaaDoorW.PrintLast Go.Proofs.YtcnbnljlopopkaaDoorW.PrintMore
attribute [local go_sem] max2_int min2_int max_two min_two max_three min_three max_four min_four   -- for this text's walks alone
set_option linter.unusedVariables false
set_option linter.unusedSimpArgs false



open Go.Maps
open _root_.Go.Proofs.YtcnbnljlopopkaaDoor.LsA
open _root_.Go.Proofs.YtcnbnljlopopkaaDoor.LsB
/-! ### is a node empty; a value taken out of it; a node taken off its level -/
theorem keyS_inv {key : Value} {kl : Lit} (h : keyOf Tryd.prog 9 key = some kl) : ∃ s, key = .string s ∧ kl = kS s ∧ okS s := by
 have hk := Tryd.underlying9
 cases key <;> simp [keyOf, hk, mapKey] at h
 obtain ⟨h1, rfl⟩ := h
 exact ⟨_, rfl, rfl, h1⟩
theorem nMap_keys {n m : Nat} {w : World} {D : DataW Unit} (h : nMap n w m D) : ∃ es, D = .map es ∧ ∀ p ∈ es, ∃ s, p.1 = kS s ∧ okS s := by
 obtain ⟨es, clock, hb, F, hs, rfl⟩ := h
 refine ⟨_, rfl, fun p hp => ?_⟩
 obtain ⟨x, hx, rfl⟩ := List.mem_map.1 (mem_sorted.1 hp)
 obtain ⟨y, hy⟩ := F.reads x hx
 have hk := WideElems.rd_key hy
 rw [WideElems.rg_of hy]
 obtain ⟨s, _, h2, h3⟩ := keyS_inv hk
 exact ⟨s, h2, h3⟩
theorem sMap_keys {n m : Nat} {w : World} {D : DataW Unit} (h : sMap n w m D) : ∃ es, D = .map es ∧ ∀ p ∈ es, ∃ x, p.1 = kI x ∧ okI x := by
 obtain ⟨es, clock, hb, F, hs, rfl⟩ := h
 refine ⟨_, rfl, fun p hp => ?_⟩
 obtain ⟨x, hx, rfl⟩ := List.mem_map.1 (mem_sorted.1 hp)
 obtain ⟨y, hy⟩ := F.reads x hx
 have hk := WideElems.rd_key hy
 rw [WideElems.rg_of hy]
 obtain ⟨z, _, hz, hw⟩ := Maps.keyOf_int_inv Tryd.underlying3 hk
 exact ⟨z, hz, hw⟩
theorem size0 {α : Type} {kl : α → Lit} {ok : α → Prop} {D : DataW Unit} {L : α → DataW Unit → Prop} (hk : ∀ x, WideAt.IsKeyLit (kl x)) (h : ∃ es, D = .map es ∧ ∀ p ∈ es, ∃ x, p.1 = kl x ∧ ok x) (hD : MapIs kl ok D L) : Maps.size D = 0 ↔ ∀ x d, ¬ L x d := by
 obtain ⟨es, rfl, hes⟩ := h
 rw [Maps.size_eq]
 constructor
 ·
  intro h0 x d hx
  have := (hD.1 x (hD.2 x d hx).1).2 ⟨d, hx⟩
  rw [List.length_eq_zero_iff.1 h0] at this
  simp [Maps.has] at this
 ·
  intro hn
  rcases es with _ | ⟨p, es⟩
  ·
   rfl
  ·
   obtain ⟨x, hx, hw⟩ := hes p List.mem_cons_self
   have : Maps.has (DataW.map (p :: es)) (kl x) = true := by
    rw [Maps.has_eq, List.any_cons, hx, WideAt.sameKey_self (hk x)]
    rfl
   obtain ⟨d, hd⟩ := (hD.1 x hw).1 this
   exact absurd hd (hn x d)
section
variable {tk : ByteArray → Path} {N B : Nat} {w : World} {T : Trie} {E : List Ent}
def noKids (T : Trie) (p : Path) : Prop := ∀ u, T.nd (p ++ [u]) = none
set_option maxHeartbeats 4000000 in
set_option maxRecDepth 100000 in
theorem numNodes_calls (h : MemT tk N w B T E) (hN : N < 1000000000000) {p : Path} {r : Rc} (hr : T.lv p = some r) :
  Calls Tryd.prog 72 #[.pointer (some ⟨r.b, 0, none⟩)] w fun e w' => ∃ n : Int, e = .returned (.int .i64 n) ∧ 0 ≤ n ∧ (n = 0 ↔ noKids T p) ∧ w' = w := by
 obtain ⟨k1, k2, k3, D, hD, hDL⟩ := h.lvl p r hr
 have c0 : w.cell? ⟨r.b, 0, none⟩ = some (.map (some r.m)) := (cell_of_row w r.b 0 _ _ _ k3).trans rfl
 have c1 : w.cell? ⟨r.b, 1, none⟩ = some (ptR (T.nd (p ++ [star]))) := (cell_of_row w r.b 1 _ _ _ k3).trans rfl
 have c2 : w.cell? ⟨r.b, 2, none⟩ = some (ptR (T.nd (p ++ [gts]))) := (cell_of_row w r.b 2 _ _ _ k3).trans rfl
 have hsz := size0 (kl := kS) (fun _ => trivial) (nMap_keys hD) hDL
 have hle := hD.size_le
 obtain ⟨z, hz⟩ : ∃ z, z = Maps.size D := ⟨_, rfl⟩
 rw [← hz] at hsz hle
 have hlen := fun ty => World.ownsMap.len hD Tryd.underlying97 ty
 rw [← hz] at hlen
 have HL := Aside0.mk (And.intro hsz (And.intro hle (And.intro hN hz)))
 have HD := Aside0.mk hD
 have fin : ∀ a b : Option Rc, T.nd (p ++ [star]) = a → T.nd (p ++ [gts]) = b → ∀ n : Int, (n = 0 ↔ z = 0 ∧ a = none ∧ b = none) → (n = 0 ↔ noKids T p) := fun a b ha hb n hn => by
  rw [hn, hsz, ← ha, ← hb]
  constructor
  ·
   rintro ⟨q1, q2, q3⟩ u
   by_cases cu : u = star
   ·
    rw [cu]; exact q2
   ·
    by_cases cg : u = gts
    ·
     rw [cg]; exact q3
    ·
     cases q : T.nd (p ++ [u]) with
     | none => rfl
     | some x => exact absurd ⟨cu, cg, x, q, rfl⟩ (q1 u (nl x.b))
  ·
   intro q
   exact ⟨fun x d hx => by obtain ⟨_, _, y, hy, _⟩ := hx; rw [q x] at hy; exact absurd hy (by simp), q star, q gts⟩
 have FIN := Aside0.mk fin
 have e1 : wrap64 ((z : Int) + 1) = ((z + 1 : Nat) : Int) := Road.w64 _ _ (by omega) (by omega) (by omega)
 have e2 : wrap64 (((z + 1 : Nat) : Int) + 1) = ((z + 2 : Nat) : Int) := Road.w64 _ _ (by omega) (by omega) (by omega)
 obtain ⟨z1, hz1⟩ : ∃ x, x = z + 1 := ⟨_, rfl⟩
 obtain ⟨z2, hz2⟩ : ∃ x, x = z + 2 := ⟨_, rfl⟩
 rw [← hz1] at e1 e2
 rw [← hz2] at e2
 have HZ := Aside0.mk (And.intro hz1 hz2)
 have HE := Aside0.mk (And.intro e1 e2)
 clear k1 k2 k3 hD hDL hsz hle hz fin h hN hr hz1 hz2 e1 e2
 cases ha : T.nd (p ++ [star]) with
 | none =>
  rw [ha] at c1
  change _ = some (Value.pointer none) at c1
  have HAA := Aside0.mk ha
  clear ha
  cases hb : T.nd (p ++ [gts]) with
  | none =>
   rw [hb] at c2
   change _ = some (Value.pointer none) at c2
   have HBB := Aside0.mk hb
   clear hb
   go_enter Tryd.func72, Tryd.ntmps72
   go_wp2_with fail
   go_ret
   exact ⟨_, rfl, by omega, FIN.out _ _ HAA.out HBB.out _ ⟨fun q => ⟨by omega, rfl, rfl⟩, fun q => by omega⟩, rfl⟩
  | some x =>
   rw [hb] at c2
   change _ = some (Value.pointer (some ⟨x.b, 0, none⟩)) at c2
   have HBB := Aside0.mk hb
   clear hb
   have e1 := HE.out.1
   go_enter Tryd.func72, Tryd.ntmps72
   go_wp2_with fail
   go_ret
   exact ⟨(z1 : Int), congrArg (fun q => Ending.returned (Value.int .i64 q)) HE.out.1, by omega, FIN.out _ _ HAA.out HBB.out _ ⟨fun q => by have := HZ.out.1; clear e1; omega, fun q => absurd q.2.2 (by simp)⟩, rfl⟩
 | some y =>
  rw [ha] at c1
  change _ = some (Value.pointer (some ⟨y.b, 0, none⟩)) at c1
  have HAA := Aside0.mk ha
  clear ha
  cases hb : T.nd (p ++ [gts]) with
  | none =>
   rw [hb] at c2
   change _ = some (Value.pointer none) at c2
   have HBB := Aside0.mk hb
   clear hb
   have e1 := HE.out.1
   go_enter Tryd.func72, Tryd.ntmps72
   go_wp2_with fail
   go_ret
   exact ⟨(z1 : Int), congrArg (fun q => Ending.returned (Value.int .i64 q)) HE.out.1, by omega, FIN.out _ _ HAA.out HBB.out _ ⟨fun q => by have := HZ.out.1; clear e1; omega, fun q => absurd q.2.1 (by simp)⟩, rfl⟩
  | some x =>
   rw [hb] at c2
   change _ = some (Value.pointer (some ⟨x.b, 0, none⟩)) at c2
   have HBB := Aside0.mk hb
   clear hb
   have e1 := HE.out.1
   have e2 := HE.out.2
   go_enter Tryd.func72, Tryd.ntmps72
   go_wp2_with fail
   go_ret
   exact ⟨(z2 : Int), congrArg (fun q => Ending.returned (Value.int .i64 q)) HE.out.2, by omega, FIN.out _ _ HAA.out HBB.out _ ⟨fun q => by have := HZ.out.2; clear e1 e2; omega, fun q => absurd q.2.1 (by simp)⟩, rfl⟩
set_option maxHeartbeats 4000000 in
set_option maxRecDepth 100000 in
theorem isEmpty_calls (h : MemT tk N w B T E) (hN : N < 1000000000000) {p : Path} {q : Rc} (hq : T.nd p = some q) (hf : T.lv p ≠ none) :
  Calls Tryd.prog 81 #[.pointer (some ⟨q.b, 0, none⟩)] w fun e w' => ∃ b : Bool, e = .returned (.bool b) ∧ (b = true ↔ (∀ s v, (s, v) ∈ E → tk s ≠ p) ∧ noKids T p) ∧ w' = w := by
 obtain ⟨k1, k2, k3, D, hD, hDL⟩ := h.nod p q hq
 cases hr : T.lv p with
 | none => exact absurd hr hf
 | some r =>
 rw [hr] at k3
 have c0 : w.cell? ⟨q.b, 0, none⟩ = some (.pointer (some ⟨r.b, 0, none⟩)) := (cell_of_row w q.b 0 _ _ _ k3).trans rfl
 have c1 : w.cell? ⟨q.b, 1, none⟩ = some (.map (some q.m)) := (cell_of_row w q.b 1 _ _ _ k3).trans rfl
 have hsz := size0 (kl := kI) (fun _ => trivial) (sMap_keys hD) hDL
 have hse : Maps.size D = 0 ↔ ∀ s v, (s, v) ∈ E → tk s ≠ p := hsz.trans ⟨fun g s v hs e => g v (sl s) ⟨s, hs, e, rfl⟩, fun g v d hd => by obtain ⟨s, h1, h2, _⟩ := hd; exact g s v h1 h2⟩
 obtain ⟨z, hz⟩ : ∃ z, z = Maps.size D := ⟨_, rfl⟩
 have hlen := fun ty => World.ownsMap.len hD Tryd.underlying101 ty
 rw [← hz] at hlen hse
 have HNN := Aside0.mk (numNodes_calls h hN hr)
 have HS := Aside0.mk hse
 clear k1 k2 k3 hD hDL hsz hse h hN hq hf hr hz
 by_cases c : z = 0
 ·
  have y1 : ((z : Int) == 0) = true := beq_iff_eq.2 (by omega)
  have y2 := eq_true (show (z : Int) = 0 by omega)
  have HC := Aside0.mk c
  clear c
  go_enter Tryd.func81, Tryd.ntmps81
  go_wp2_with fail
  refine HNN.out.mono ?_
  rintro en w1 ⟨n, rfl, h0, hn, rfl⟩
  have HN := Aside0.mk hn
  obtain ⟨b, hb⟩ : ∃ b : Bool, b = (n == 0) := ⟨_, rfl⟩
  have hb' := hb.symm
  have HBB := Aside0.mk hb
  clear hn h0 hb
  go_wp2_with fail
  go_ret
  refine ⟨b, rfl, ?_, rfl⟩
  rw [HBB.out, beq_iff_eq, HN.out]
  exact ⟨fun g => ⟨HS.out.1 HC.out, g⟩, fun g => g.2⟩
 ·
  have y1 : ((z : Int) == 0) = false := beq_eq_false_iff_ne.2 (by omega)
  have y2 := eq_false (show ¬ (z : Int) = 0 by omega)
  have HC := Aside0.mk c
  clear c
  go_enter Tryd.func81, Tryd.ntmps81
  go_wp2_with fail
  go_ret
  exact ⟨false, rfl, ⟨fun g => absurd g (by simp), fun g => absurd (HS.out.2 g.1) HC.out⟩, rfl⟩
end
/-! ### removeFromNode, pruneNode -/
def dropE (E : List Ent) (x : Ent) : List Ent := E.filter (fun e => decide (e ≠ x))
theorem mem_dropE {E : List Ent} {x e : Ent} : e ∈ dropE E x ↔ e ≠ x ∧ e ∈ E := by
 unfold dropE
 rw [List.mem_filter, decide_eq_true_eq]
 exact And.comm
theorem len_dropE : ∀ {E : List Ent} {x : Ent}, E.Nodup → x ∈ E → (dropE E x).length + 1 = E.length
 | [], x, _, h => absurd h (by simp)
 | y :: E, x, hn, h => by
  unfold dropE
  rw [List.filter_cons]
  by_cases c : y = x
  ·
   subst c
   rw [if_neg (by simp)]
   have : E.filter (fun e => decide (e ≠ y)) = E := List.filter_eq_self.2 (fun e he => by
    rw [decide_eq_true_eq]
    rintro rfl
    exact (List.nodup_cons.1 hn).1 he)
   rw [this, List.length_cons]
  ·
   rw [if_pos (by simpa using c), List.length_cons, List.length_cons]
   have := len_dropE (E := E) (x := x) (List.nodup_cons.1 hn).2 ((List.mem_cons.1 h).resolve_left (fun e => c e.symm))
   unfold dropE at this
   omega
theorem nodup_dropE {E : List Ent} {x : Ent} (h : E.Nodup) : (dropE E x).Nodup := h.sublist List.filter_sublist
section
variable {tk : ByteArray → Path} {N B : Nat} {w : World} {T : Trie} {E : List Ent}
/-- The value is under the node: it is taken away; or it is not. -/
def RfnPost (tk : ByteArray → Path) (N B : Nat) (T : Trie) (E : List Ent) (p : Path) (s : ByteArray) (v : Int) (w : World) (b : Bool) (w' : World) : Prop :=
 (b = true ∧ (s, v) ∈ E ∧ MemT tk N w' B T (dropE E (s, v)) ∧ ∃ q, T.nd p = some q ∧ w.grownBy w' (some q.m)) ∨ (b = false ∧ (s, v) ∉ E ∧ w' = w)
def RfnQ (tk : ByteArray → Path) (N B : Nat) (T : Trie) (E : List Ent) (p : Path) (s : ByteArray) (v : Int) (w : World) (e : Ending) (w' : World) : Prop := ∃ b : Bool, e = .returned (.bool b) ∧ RfnPost tk N B T E p s v w b w'
set_option maxHeartbeats 4000000 in
set_option maxRecDepth 100000 in
theorem rfn_calls (h : MemT tk N w B T E) (hnd : E.Nodup) {p : Path} {s : ByteArray} {v : Int} (hv : okI v) (hs : tk s = p) (hinj : ∀ s', tk s' = tk s → s' = s) (hd : Value) :
  Calls Tryd.prog 80 #[hd, ptR (T.nd p), .int .i64 v] w fun e w' => RfnQ tk N B T E p s v w e w' := by
 cases hq : T.nd p with
 | none =>
  have hno : (s, v) ∉ E := fun g => h.ent s v g (by rw [hs]; exact hq)
  clear h hnd hv hs hinj hq
  show Calls _ _ #[hd, .pointer none, _] _ _
  go_enter Tryd.func80, Tryd.ntmps80
  go_wp2_with fail
  go_ret
  exact ⟨false, rfl, .inr ⟨rfl, hno, rfl⟩⟩
 | some q =>
  show Calls _ _ #[hd, .pointer (some ⟨q.b, 0, none⟩), _] _ _
  obtain ⟨k1, k2, k3, D, hD, hDL⟩ := h.nod p q hq
  have c1 : w.cell? ⟨q.b, 1, none⟩ = some (.map (some q.m)) := (cell_of_row w q.b 1 _ _ _ k3).trans rfl
  have hkey := keyOf_int_mk (P := Tryd.prog) Tryd.underlying3 hv
  have zeroE : ∀ w, (zeroValue 9).run Tryd.prog w = .ok (.string ⟨#[]⟩) w := fun w => by kernel_rfl
  have hhas : Maps.has D (kI v) = true ↔ (s, v) ∈ E := by
   rw [hDL.1 v hv]
   constructor
   ·
    rintro ⟨d, s', h1, h2, h3⟩
    rw [← hinj s' (h2.trans hs.symm)]
    exact h1
   ·
    intro g
    exact ⟨sl s, s, g, hs, rfl⟩
  have HH := Aside0.mk (And.intro h (And.intro hnd (And.intro hv (And.intro hs (And.intro hinj (And.intro hq (And.intro hD (And.intro hDL hhas))))))))
  have hzs := plainElem_string (H := Unit) (P := Tryd.prog) (e := 9) Tryd.underlying9 (s := ⟨#[]⟩) (by decide)
  by_cases hin : (s, v) ∈ E
  ·
   have hb := hhas.2 hin
   have HIN := Aside0.mk hin
   clear h hnd hv hs hinj hq hDL hhas k1 k2 k3 hin hD
   go_enter Tryd.func80, Tryd.ntmps80
   go_wp2_with (first | (at_lookup; refine wpList_lookup_own_ok _ rfl _ _ 101 rfl 3 9 lawI Tryd.underlying101 (plainElem Tryd.prog 9) (zeroE _) _ [] hzs q.m N D rfl HH.out.2.2.2.2.2.2.1 _ _ rfl hkey ?_; intro v9 ps9 hv9; rw [show Maps.has D (Lit.int .i64 v) = true from hb]; clear hv9) | (at_delete; refine wpList_delete_own _ rfl _ _ 101 3 rfl 9 lawI Tryd.underlying101 _ q.m N D rfl HH.out.2.2.2.2.2.2.1 _ _ rfl hkey ?_; intro w6 hown6 hturn6; have H6 := Aside0.mk (And.intro hown6 hturn6); clear hown6 hturn6) | fail)
   go_ret
   obtain ⟨h, hnd, hv, hs, hinj, hq, hD, hDL, hhas⟩ := HH.out
   obtain ⟨hown6, hturn6⟩ := H6.out
   refine ⟨true, rfl, .inl ⟨rfl, HIN.out, ?_, q, hq, hturn6.grown⟩⟩
   have hme : ∀ x, x ∈ dropE E (s, v) ↔ x ≠ (s, v) ∧ x ∈ E := fun x => mem_dropE
   refine h.subs hq (Nat.le_refl _) ⟨_, hown6, (hDL.del (fun _ _ => kI_ne) v).congr (fun v' d => ?_)⟩ (fun q' hq' v' d => ?_) (fun s' v' hm => .inl ((hme _).1 hm).2) (fun k hk hne => hturn6.grown.block k hk (fun f => hne (by injection f)))
   ·
    constructor
    ·
     rintro ⟨h1, s', h2, h3, h4⟩
     exact ⟨s', (hme _).2 ⟨fun e => h1 (by injection e), h2⟩, h3, h4⟩
    ·
     rintro ⟨s', h2, h3, h4⟩
     obtain ⟨h5, h6⟩ := (hme _).1 h2
     refine ⟨fun e => h5 ?_, s', h6, h3, h4⟩
     rw [e, hinj s' (h3.trans hs.symm)]
   ·
    constructor
    ·
     rintro ⟨s', h2, h3, h4⟩
     refine ⟨s', (hme _).2 ⟨fun e => hq' ?_, h2⟩, h3, h4⟩
     injection e with e _
     rw [← h3, e, hs]
    ·
     rintro ⟨s', h2, h3, h4⟩
     exact ⟨s', ((hme _).1 h2).2, h3, h4⟩
  ·
   have hb : Maps.has D (kI v) = false := by
    cases hh : Maps.has D (kI v) with
    | false => rfl
    | true => exact absurd (hhas.1 hh) hin
   have HIN := Aside0.mk hin
   clear h hnd hv hs hinj hq hDL hhas k1 k2 k3 hin hD
   go_enter Tryd.func80, Tryd.ntmps80
   go_wp2_with (first | (at_lookup; refine wpList_lookup_own_ok _ rfl _ _ 101 rfl 3 9 lawI Tryd.underlying101 (plainElem Tryd.prog 9) (zeroE _) _ [] hzs q.m N D rfl HH.out.2.2.2.2.2.2.1 _ _ rfl hkey ?_; intro v9 ps9 hv9; rw [show Maps.has D (Lit.int .i64 v) = false from hb]; clear hv9) | fail)
   go_ret
   exact ⟨false, rfl, .inr ⟨rfl, HIN.out, rfl⟩⟩
def GrowOne (r : Rc) (w w' : World) : Prop := ∃ g, (g = r.b ∨ g = r.m) ∧ w.grownBy w' (some g)
set_option maxHeartbeats 8000000 in
set_option maxRecDepth 100000 in
theorem prune_calls (h : MemT tk N w B T E) {p : Path} {t : ByteArray} (ht : okS t) {r q : Rc} (hr : T.lv p = some r) (hq : T.nd (p ++ [t]) = some q) (he : ∀ s v, (s, v) ∈ E → tk s ≠ p ++ [t]) (hc : noKids T (p ++ [t])) :
  Calls Tryd.prog 82 #[.pointer (some ⟨r.b, 0, none⟩), .pointer (some ⟨q.b, 0, none⟩), .string t] w fun e w' => e = .returned (.tuple #[]) ∧ MemT tk N w' B ⟨upR T.nd (p ++ [t]) none, upR T.lv (p ++ [t]) none⟩ E ∧ GrowOne r w w' := by
 obtain ⟨k1, k2, k3, D, hD, hDL⟩ := h.lvl p r hr
 have c0 : w.cell? ⟨r.b, 0, none⟩ = some (.map (some r.m)) := (cell_of_row w r.b 0 _ _ _ k3).trans rfl
 have c1 : w.cell? ⟨r.b, 1, none⟩ = some (ptR (T.nd (p ++ [star]))) := (cell_of_row w r.b 1 _ _ _ k3).trans rfl
 have c2 : w.cell? ⟨r.b, 2, none⟩ = some (ptR (T.nd (p ++ [gts]))) := (cell_of_row w r.b 2 _ _ _ k3).trans rfl
 have z1 := not_frozen k3 1
 have z2 := not_frozen k3 2
 have HH := Aside0.mk (And.intro h (And.intro ht (And.intro hr (And.intro hq (And.intro he (And.intro hc (And.intro k3 (And.intro hD hDL))))))))
 obtain ⟨j, hj, hj0, hj1, hj2⟩ := info_parts (P := Tryd.prog) (e := 103) (z := .agg #[.pointer none, .map none]) (size := 2) (bytes := 16) (by kernel_rfl)
 have hES := run_eql_ptr_same w ⟨q.b, 0, none⟩ Tryd.underlying95 hj
 have oth : ∀ u x, u ≠ t → T.nd (p ++ [u]) = some x → (binOp .eql 95 (.pointer (some ⟨q.b, 0, none⟩)) (.pointer (some ⟨x.b, 0, none⟩))).run Tryd.prog w = .ok (.bool false) w := fun u x hu hx =>
  run_eql_ptr_other w Tryd.underlying95 hj (by rw [hj1]; decide) (fun e => (h.ind _ _ q x hq hx (fun e => hu (snoc_inj.1 e).symm)).1 (by injection e)) (h.nod _ q hq).2.2.1 (h.nod _ x hx).2.2.1
 have OTH := Aside0.mk oth
 by_cases tg : t = gts
 ·
  subst tg
  rw [hq] at c2
  change _ = some (Value.pointer (some ⟨q.b, 0, none⟩)) at c2
  clear h ht hr hq he hc k1 k2 k3 hD hDL oth
  go_enter Tryd.func82, Tryd.ntmps82
  go_wp2_with fail
  go_end0
  obtain ⟨h, ht, hr, hq, he, hc, k3, hD, hDL⟩ := HH.out
  have hg := grown_setCell w r.b 2 (.pointer none)
  refine ⟨rfl, h.prune hr he hc ?_ ?_ (fun k hk hn _ => hg.block k hk (fun f => hn (by injection f))), r.b, .inl rfl, hg⟩
  ·
   rw [upR_same, upR_other _ _ (fun e => gts_ne_star (snoc_inj.1 e).symm)]
   exact Road.setCell_same_heap 2 _ k3
  ·
   obtain ⟨es, c, k5⟩ := NAt.obj ⟨D, hD, hDL⟩
   refine (NAt.keep ⟨D, hD, hDL⟩ (hg.block _ (lt_some k5) (fun f => h.lvbm hr hr (by injection f with f; exact f.symm)))).congr (fun u d => ?_)
   show (u ≠ star ∧ u ≠ gts ∧ ∃ r', T.nd (p ++ [u]) = some r' ∧ d = nl r'.b) ↔ (u ≠ star ∧ u ≠ gts ∧ ∃ r', upR T.nd (p ++ [gts]) none (p ++ [u]) = some r' ∧ d = nl r'.b)
   by_cases cu : u = gts
   ·
    exact ⟨fun g => absurd cu g.2.1, fun g => absurd cu g.2.1⟩
   ·
    rw [upR_other _ _ (fun e => cu (snoc_inj.1 e))]
 ·
  -- not fwc
  have hng : ∃ a : Option Addr, (∀ b0, a = some ⟨b0, 0, none⟩ → (binOp .eql 95 (.pointer (some ⟨q.b, 0, none⟩)) (.pointer (some ⟨b0, 0, none⟩))).run Tryd.prog w = .ok (.bool false) w) ∧ (a = none ∨ ∃ b0, a = some ⟨b0, 0, none⟩) ∧ ptR (T.nd (p ++ [gts])) = .pointer a := by
   cases hx : T.nd (p ++ [gts]) with
   | none => exact ⟨none, fun b0 e => by simp at e, .inl rfl, rfl⟩
   | some x => exact ⟨some ⟨x.b, 0, none⟩, fun b0 e => by injection e with e; injection e with e; rw [← e]; exact oth gts x (Ne.symm tg) hx, .inr ⟨x.b, rfl⟩, rfl⟩
  obtain ⟨a2, ha2, ho2, e2⟩ := hng
  rw [e2] at c2
  clear e2
  by_cases ts : t = star
  ·
   subst ts
   rw [hq] at c1
   change _ = some (Value.pointer (some ⟨q.b, 0, none⟩)) at c1
   have fin : ∀ w', w' = w.setCell ⟨r.b, 1, none⟩ (.pointer none) → MemT tk N w' B ⟨upR T.nd (p ++ [star]) none, upR T.lv (p ++ [star]) none⟩ E ∧ GrowOne r w w' := fun w' e' => by
    subst e'
    have hg := grown_setCell w r.b 1 (.pointer none)
    refine ⟨h.prune hr he hc ?_ ?_ (fun k hk hn _ => hg.block k hk (fun f => hn (by injection f))), r.b, .inl rfl, hg⟩
    ·
     rw [upR_same, upR_other _ _ (fun e => gts_ne_star (snoc_inj.1 e))]
     exact Road.setCell_same_heap 1 _ k3
    ·
     obtain ⟨es, c, k5⟩ := NAt.obj ⟨D, hD, hDL⟩
     refine (NAt.keep ⟨D, hD, hDL⟩ (hg.block _ (lt_some k5) (fun f => h.lvbm hr hr (by injection f with f; exact f.symm)))).congr (fun u d => ?_)
     show (u ≠ star ∧ u ≠ gts ∧ ∃ r', T.nd (p ++ [u]) = some r' ∧ d = nl r'.b) ↔ (u ≠ star ∧ u ≠ gts ∧ ∃ r', upR T.nd (p ++ [star]) none (p ++ [u]) = some r' ∧ d = nl r'.b)
     by_cases cu : u = star
     ·
      exact ⟨fun g => absurd cu g.1, fun g => absurd cu g.1⟩
     ·
      rw [upR_other _ _ (fun e => cu (snoc_inj.1 e))]
   have FIN := Aside0.mk fin
   clear h ht hr hq he hc k1 k2 k3 hD hDL oth fin
   rcases ho2 with rfl | ⟨b0, rfl⟩
   ·
    go_enter Tryd.func82, Tryd.ntmps82
    go_wp2_with fail
    go_end0
    exact ⟨rfl, FIN.out _ rfl⟩
   ·
    have n1 := ha2 b0 rfl
    clear ha2
    go_enter Tryd.func82, Tryd.ntmps82
    go_wp2_with fail
    go_end0
    exact ⟨rfl, FIN.out _ rfl⟩
  ·
   have hns : ∃ a : Option Addr, (∀ b0, a = some ⟨b0, 0, none⟩ → (binOp .eql 95 (.pointer (some ⟨q.b, 0, none⟩)) (.pointer (some ⟨b0, 0, none⟩))).run Tryd.prog w = .ok (.bool false) w) ∧ (a = none ∨ ∃ b0, a = some ⟨b0, 0, none⟩) ∧ ptR (T.nd (p ++ [star])) = .pointer a := by
    cases hx : T.nd (p ++ [star]) with
    | none => exact ⟨none, fun b0 e => by simp at e, .inl rfl, rfl⟩
    | some x => exact ⟨some ⟨x.b, 0, none⟩, fun b0 e => by injection e with e; injection e with e; rw [← e]; exact oth star x (Ne.symm ts) hx, .inr ⟨x.b, rfl⟩, rfl⟩
   obtain ⟨a1, ha1, ho1, e1⟩ := hns
   rw [e1] at c1
   clear e1
   have hkey := WideMaps.keyOf_string_mk (P := Tryd.prog) Tryd.underlying9 ht
   have fin : ∀ w', nMap N w' r.m (D.del (kS t)) → w.mapTurned w' r.m → MemT tk N w' B ⟨upR T.nd (p ++ [t]) none, upR T.lv (p ++ [t]) none⟩ E ∧ GrowOne r w w' := fun w' hown hturn => by
    have hg := hturn.grown
    refine ⟨h.prune hr he hc ?_ ⟨_, hown, (hDL.del (fun _ _ => kS_ne) t).congr (fun u d => ?_)⟩ (fun k hk _ hn => hg.block k hk (fun f => hn (by injection f))), r.m, .inr rfl, hg⟩
    ·
     rw [upR_other _ _ (fun e => ts (snoc_inj.1 e).symm), upR_other _ _ (fun e => tg (snoc_inj.1 e).symm)]
     exact (hg.block _ (lt_some k3) (fun f => h.lvbm hr hr (by injection f))).trans k3
    ·
     show (u ≠ t ∧ u ≠ star ∧ u ≠ gts ∧ ∃ r', T.nd (p ++ [u]) = some r' ∧ d = nl r'.b) ↔ (u ≠ star ∧ u ≠ gts ∧ ∃ r', upR T.nd (p ++ [t]) none (p ++ [u]) = some r' ∧ d = nl r'.b)
     by_cases cu : u = t
     ·
      subst cu
      rw [upR_same]
      exact ⟨fun g => absurd rfl g.1, fun g => by obtain ⟨_, _, r', e, _⟩ := g; exact absurd e (by simp)⟩
     ·
      rw [upR_other _ _ (fun e => cu (snoc_inj.1 e))]
      exact ⟨fun g => g.2, fun g => ⟨cu, g⟩⟩
   have FIN := Aside0.mk fin
   clear h ht hr hq he hc k1 k2 k3 hD hDL oth fin
   rcases ho2 with rfl | ⟨b0, rfl⟩ <;> rcases ho1 with rfl | ⟨b1, rfl⟩
   ·
    go_enter Tryd.func82, Tryd.ntmps82
    go_wp2_with (first | (at_delete; refine wpList_delete_own _ rfl _ _ 97 9 rfl 95 lawS Tryd.underlying97 _ r.m N D rfl HH.out.2.2.2.2.2.2.2.1 _ _ rfl hkey ?_; intro w6 hown6 hturn6; have H6 := Aside0.mk (And.intro hown6 hturn6); clear hown6 hturn6) | fail)
    go_end0
    exact ⟨rfl, FIN.out _ H6.out.1 H6.out.2⟩
   ·
    have n1 := ha1 b1 rfl
    clear ha1
    go_enter Tryd.func82, Tryd.ntmps82
    go_wp2_with (first | (at_delete; refine wpList_delete_own _ rfl _ _ 97 9 rfl 95 lawS Tryd.underlying97 _ r.m N D rfl HH.out.2.2.2.2.2.2.2.1 _ _ rfl hkey ?_; intro w6 hown6 hturn6; have H6 := Aside0.mk (And.intro hown6 hturn6); clear hown6 hturn6) | fail)
    go_end0
    exact ⟨rfl, FIN.out _ H6.out.1 H6.out.2⟩
   ·
    have n1 := ha2 b0 rfl
    clear ha2
    go_enter Tryd.func82, Tryd.ntmps82
    go_wp2_with (first | (at_delete; refine wpList_delete_own _ rfl _ _ 97 9 rfl 95 lawS Tryd.underlying97 _ r.m N D rfl HH.out.2.2.2.2.2.2.2.1 _ _ rfl hkey ?_; intro w6 hown6 hturn6; have H6 := Aside0.mk (And.intro hown6 hturn6); clear hown6 hturn6) | fail)
    go_end0
    exact ⟨rfl, FIN.out _ H6.out.1 H6.out.2⟩
   ·
    have n1 := ha2 b0 rfl
    have m1 := ha1 b1 rfl
    clear ha1 ha2
    go_enter Tryd.func82, Tryd.ntmps82
    go_wp2_with (first | (at_delete; refine wpList_delete_own _ rfl _ _ 97 9 rfl 95 lawS Tryd.underlying97 _ r.m N D rfl HH.out.2.2.2.2.2.2.2.1 _ _ rfl hkey ?_; intro w6 hown6 hturn6; have H6 := Aside0.mk (And.intro hown6 hturn6); clear hown6 hturn6) | fail)
    go_end0
    exact ⟨rfl, FIN.out _ H6.out.1 H6.out.2⟩
end
/-! ### remove: the way down and the way back -/
section
variable {P : Program}
theorem wpList_allocVar {ops : Array Oper} {rest : List Oper} {o1 : Oper} {a : Act} {Q : Exit → Act → World → Prop} {w : World} (T : TypeId) (p : Tmp) (zs : Array Value)
  (g1 : o1.guard = none) (h1 : o1.op = .alloc T) (d1 : o1.dst = some p)
  (ha : ∀ w, (Instr.alloc T true (.tuple #[])).run P w = .ok (.pointer (some ⟨w.heap.size, 0, none⟩)) (w.alloc (.cells zs T)))
  (h : wpList P ops Q rest (a.put (some p) (.pointer (some ⟨w.heap.size, 0, none⟩))) (w.alloc (.cells zs T))) : wpList P ops Q (o1 :: rest) a w := by
 refine wpList_plain g1 fun K hK => ?_
 unfold Oper.wp execOp
 simp only [h1, Sem.run_bind, ha, Result.andThen_ok, Sem.run_pure, Oper.upon_value, d1]
 exact hK _ _ h
end
def z96 : Array Value := ((List.replicate 32 [Value.pointer none, Value.pointer none, Value.string ⟨#[]⟩]).flatten).toArray
theorem z96_alloc (w : World) : (Instr.alloc 119 true (.tuple #[])).run Tryd.prog w = .ok (.pointer (some ⟨w.heap.size, 0, none⟩)) (w.alloc (.cells z96 119)) := by kernel_rfl
theorem lnt_info : (Tryd.prog.info? 118).map (fun i => (i.zero, i.size, i.bytes)) = some (some (.agg #[.pointer none, .pointer none, .string ⟨#[]⟩]), 3, 32) := by kernel_rfl
/-- The levels that were passed: level, node, token. -/
def lvC (T : Trie) (tks : Path) (i : Nat) : List Value := (List.range i).flatMap (fun j => [ptR (T.lv (tks.take j)), ptR (T.nd (tks.take (j + 1))), .string (tks.getD j ByteArray.empty)])
theorem lvC_succ (T : Trie) (tks : Path) (i : Nat) : lvC T tks (i + 1) = lvC T tks i ++ [ptR (T.lv (tks.take i)), ptR (T.nd (tks.take (i + 1))), .string (tks.getD i ByteArray.empty)] := by
 unfold lvC
 rw [List.range_succ, List.flatMap_append]
 rfl
theorem lvC_len (T : Trie) (tks : Path) : ∀ i, (lvC T tks i).length = i * 3
 | 0 => rfl
 | i + 1 => by rw [lvC_succ, List.length_append, lvC_len T tks i]; show i * 3 + 3 = _; omega
theorem lvC_get (T : Trie) (tks : Path) : ∀ i j, j < i → (lvC T tks i)[j * 3]? = some (ptR (T.lv (tks.take j))) ∧ (lvC T tks i)[j * 3 + 1]? = some (ptR (T.nd (tks.take (j + 1)))) ∧ (lvC T tks i)[j * 3 + 2]? = some (.string (tks.getD j ByteArray.empty))
 | 0, j, h => absurd h (Nat.not_lt_zero _)
 | i + 1, j, h => by
  have hl := lvC_len T tks i
  rw [lvC_succ]
  rcases Nat.lt_or_ge j i with c | c
  ·
   obtain ⟨h1, h2, h3⟩ := lvC_get T tks i j c
   rw [List.getElem?_append_left (by omega), List.getElem?_append_left (by omega), List.getElem?_append_left (by omega)]
   exact ⟨h1, h2, h3⟩
  ·
   have : j = i := by omega
   subst this
   rw [List.getElem?_append_right (by omega), List.getElem?_append_right (by omega), List.getElem?_append_right (by omega), hl, show j * 3 - j * 3 = 0 by omega, show j * 3 + 1 - j * 3 = 1 by omega, show j * 3 + 2 - j * 3 = 2 by omega]
   exact ⟨rfl, rfl, rfl⟩
/-- A node is there, then all on its way are. -/
theorem way_nd {tk : ByteArray → Path} {N B : Nat} {w : World} {T : Trie} {E : List Ent} (h : MemT tk N w B T E) (l : Path) (hl : T.nd l ≠ none) : ∀ m i, i + m = l.length → (0 < i → T.nd (l.take i) ≠ none) ∧ (0 < m → T.lv (l.take i) ≠ none)
 | 0, i, e => ⟨fun _ => by rw [show i = l.length by omega, List.take_length]; exact hl, fun f => absurd f (Nat.lt_irrefl 0)⟩
 | m + 1, i, e => by
  obtain ⟨h1, -⟩ := way_nd h l hl m (i + 1) (by omega)
  have h2 := h1 (by omega)
  rw [take_snoc (by omega)] at h2
  cases q : T.nd (l.take i ++ [l.getD i ByteArray.empty]) with
  | none => exact absurd q h2
  | some r =>
   have h3 := h.up _ _ r q
   refine ⟨fun f => ?_, fun _ => h3⟩
   rcases h.dn _ h3 with e' | e'
   ·
    have := congrArg List.length e'
    rw [List.length_take, List.length_nil] at this
    omega
   ·
    exact e'
structure RemI (tk : ByteArray → Path) (N B hb root : Nat) (cnt : Int) (E : List Ent) (w : World) (tks : Path) (T : Trie) (base : Nat) (v : Value) (k : Nat) (T' : Trie) (wr : World) : Prop where
 mem : MemT tk N wr B T' E
 head : HeadAt wr hb 1 (-1073741824) root cnt
 ch : ChL B w wr
 row : Road.AnyRow wr base 3 v tks.length (lvC T tks tks.length)
 old : ∀ j r, T.lv (tks.take j) = some r → r.b < base ∧ r.m < base
 same : ∀ j, j ≤ k → T'.nd (tks.take j) = T.nd (tks.take j) ∧ T'.lv (tks.take j) = T.lv (tks.take j)
 full : ∀ p, T'.nd p ≠ none → T'.lv p ≠ none
 live : ∀ p, T'.nd p ≠ none → (∃ e ∈ E, p <+: tk e.1) ∨ (p <+: tks ∧ p.length ≤ k)
 nil : T'.nd [] = none
 rt : ∃ m, T'.lv [] = some ⟨root, m⟩
section
variable {tk : ByteArray → Path} {N B hb root : Nat} {cnt : Int} {E : List Ent} {w : World} {tks : Path} {T : Trie} {base : Nat} {v : Value} {j : Nat} {T' : Trie} {wr wx : World}
theorem pre_take {p l : Path} {n : Nat} (h : p <+: l) (hn : p.length = n) : p = l.take n := by
 obtain ⟨q, rfl⟩ := h
 rw [← hn, List.take_left]
theorem RemI.keep (h : RemI tk N B hb root cnt E w tks T base v (j + 1) T' wr) (hne : ¬ ((∀ s v, (s, v) ∈ E → tk s ≠ tks.take (j + 1)) ∧ noKids T' (tks.take (j + 1)))) : RemI tk N B hb root cnt E w tks T base v j T' wr := by
 refine ⟨h.mem, h.head, h.ch, h.row, h.old, fun i hi => h.same i (by omega), h.full, fun p hp => ?_, h.nil, h.rt⟩
 rcases h.live p hp with q | ⟨q1, q2⟩
 ·
  exact .inl q
 ·
  by_cases c : p.length ≤ j
  ·
   exact .inr ⟨q1, c⟩
  ·
   left
   have e : p = tks.take (j + 1) := pre_take q1 (by omega)
   by_cases a : ∃ s v, (s, v) ∈ E ∧ tk s = tks.take (j + 1)
   ·
    obtain ⟨s, v', hm, he⟩ := a
    exact ⟨(s, v'), hm, by rw [e, ← he]; exact List.prefix_refl _⟩
   ·
    by_cases b : ∃ u, T'.nd (tks.take (j + 1) ++ [u]) ≠ none
    ·
     obtain ⟨u, hu⟩ := b
     rcases h.live _ hu with ⟨x, hx, hpx⟩ | ⟨_, hl⟩
     ·
      exact ⟨x, hx, by rw [e]; exact (List.prefix_append _ _).trans hpx⟩
     ·
      rw [← e, List.length_append, List.length_singleton] at hl
      omega
    ·
     exact absurd ⟨fun s v' hm he => a ⟨s, v', hm, he⟩, fun u => Classical.byContradiction fun f => b ⟨u, f⟩⟩ hne
theorem RemI.prune (h : RemI tk N B hb root cnt E w tks T base v (j + 1) T' wr) (hj : j < tks.length) {t : ByteArray} (ht : t = tks.getD j ByteArray.empty) {r : Rc} (hr : T'.lv (tks.take j) = some r)
  (hM : MemT tk N wx B ⟨upR T'.nd (tks.take j ++ [t]) none, upR T'.lv (tks.take j ++ [t]) none⟩ E) (hg : GrowOne r wr wx) :
  RemI tk N B hb root cnt E w tks T base v j ⟨upR T'.nd (tks.take j ++ [t]) none, upR T'.lv (tks.take j ++ [t]) none⟩ wx := by
 have e := take_snoc hj
 rw [← ht] at e
 obtain ⟨g, hg1, hg2⟩ := hg
 obtain ⟨k1, k2, k3, k4⟩ := h.mem.lvl _ r hr
 obtain ⟨es, c, k5⟩ := k4.obj
 have hol := h.old j r ((h.same j (by omega)).2.symm.trans hr)
 have hgb : g < base := by rcases hg1 with rfl | rfl <;> omega
 have hhd : hb ≠ g := by
  rcases hg1 with rfl | rfl
  ·
   exact ne_obj h.head k3 (cells_ne (by decide))
  ·
   exact ne_obj h.head k5 map_ne
 have hch : ChL B wr wx := by
  rcases hg1 with rfl | rfl
  ·
   exact ChL.set k1 k3 rfl hg2
  ·
   exact ChL.set k2 k5 rfl hg2
 have hlen : (tks.take j ++ [t]).length = j + 1 := by rw [List.length_append, List.length_take, List.length_singleton]; omega
 have hne : ∀ i, i ≤ j → tks.take i ≠ tks.take j ++ [t] := fun i hi f => by
  have := congrArg List.length f
  rw [hlen, List.length_take] at this
  omega
 refine ⟨hM, (hg2.block _ (lt_some h.head) (fun f => hhd (by injection f))).trans h.head, h.ch.trans hch, h.row.move (fun k hk => ?_), h.old, fun i hi => ?_, fun p hp => ?_, fun p hp => ?_, ?_, ?_⟩
 ·
  have := h.row.base k hk
  exact hg2.block k this.2 (fun f => by injection f with f; omega)
 ·
  show upR T'.nd (tks.take j ++ [t]) none (tks.take i) = _ ∧ upR T'.lv (tks.take j ++ [t]) none (tks.take i) = _
  rw [upR_other _ _ (hne i hi), upR_other _ _ (hne i hi)]
  exact h.same i (by omega)
 ·
  have hp' : upR T'.nd (tks.take j ++ [t]) none p ≠ none := hp
  show upR T'.lv (tks.take j ++ [t]) none p ≠ none
  by_cases c : p = tks.take j ++ [t]
  ·
   subst c; rw [upR_same] at hp'; exact absurd rfl hp'
  ·
   rw [upR_other _ _ c] at hp' ⊢
   exact h.full p hp'
 ·
  have hp' : upR T'.nd (tks.take j ++ [t]) none p ≠ none := hp
  by_cases c : p = tks.take j ++ [t]
  ·
   subst c; rw [upR_same] at hp'; exact absurd rfl hp'
  ·
   rw [upR_other _ _ c] at hp'
   rcases h.live p hp' with q | ⟨q1, q2⟩
   ·
    exact .inl q
   ·
    refine .inr ⟨q1, ?_⟩
    rcases Nat.lt_or_ge j p.length with d | d
    ·
     exact absurd (by rw [← e]; exact pre_take q1 (by omega)) c
    ·
     exact d
 ·
  show upR T'.nd (tks.take j ++ [t]) none [] = none
  rw [upR_other _ _ (by simp)]
  exact h.nil
 ·
  obtain ⟨m, hm⟩ := h.rt
  refine ⟨m, ?_⟩
  show upR T'.lv (tks.take j ++ [t]) none [] = _
  rw [upR_other _ _ (by simp)]
  exact hm
end
/-! ### the errors' variables -/
structure GLaid (w : World) : Prop where
 a : ∃ t v, w.cell? ⟨0, 0, none⟩ = some (.iface t v)
 b : ∃ t v, w.cell? ⟨1, 0, none⟩ = some (.iface t v)
theorem GLaid.keep {w w' : World} (h : GLaid w) (hk : ∀ k v, w.cell? ⟨k, 0, none⟩ = some v → (k = 0 ∨ k = 1) → w'.cell? ⟨k, 0, none⟩ = some v) : GLaid w' := by
 obtain ⟨⟨t, v, ha⟩, ⟨t', v', hb⟩⟩ := h
 exact ⟨⟨t, v, hk _ _ ha (.inl rfl)⟩, ⟨t', v', hk _ _ hb (.inr rfl)⟩⟩
theorem GLaid.below {w w' : World} (h : GLaid w) (hb : Below w.heap.size w w') : GLaid w' :=
 h.keep (fun _ _ hc _ => (cell_same (hb.block _ (cell_lt hc)) 0).trans hc)
theorem GLaid.chL {B : Nat} {w0 w w' : World} (h0 : GLaid w0) (hB : w0.heap.size ≤ B) (h : GLaid w) (hc : ChL B w w') : GLaid w' := by
 obtain ⟨⟨t0, v0, ha0⟩, ⟨t1, v1, hb0⟩⟩ := h0
 refine h.keep (fun k v hk e => (cell_same (hc.low k ?_ (cell_lt hk)) 0).trans hk)
 rcases e with rfl | rfl
 ·
  exact Nat.lt_of_lt_of_le (cell_lt ha0) hB
 ·
  exact Nat.lt_of_lt_of_le (cell_lt hb0) hB
def Err1 (v : Value) : Prop := ∃ t u, v = .iface t u
def RemQ (tk : ByteArray → Path) (N B hb : Nat) (E : List Ent) (s : ByteArray) (v : Int) (w : World) (e : Ending) (w' : World) : Prop :=
 ∃ r, e = .returned r ∧ (((s, v) ∈ E ∧ r = Value.nilIface ∧ ListAt tk N w' B hb (dropE E (s, v))) ∨ ((s, v) ∉ E ∧ Err1 r ∧ ListAt tk N w' B hb E)) ∧ ChL B w w'
theorem RemI.drewN {tk : ByteArray → Path} {N B hb root : Nat} {cnt : Int} {E : List Ent} {w : World} {tks : Path} {T : Trie} {base : Nat} {v : Value} {k : Nat} {T' : Trie} {wr : World} (h : RemI tk N B hb root cnt E w tks T base v k T' wr) (n : Nat) : RemI tk N B hb root cnt E w tks T base v k T' (wr.drewN n) := by
 have hb := pw_below_drewN (Below.refl wr.heap.size wr) n
 exact ⟨h.mem.below hb, (hb.block _ (lt_some h.head)).trans h.head, h.ch.trans (ChL.of_below hb), h.row.below hb, h.old, h.same, h.full, h.live, h.nil, h.rt⟩
def upOf : Value → Nat
 | .int _ z => (z + 1).toNat
 | _ => 0
theorem RS_mine {w3 wr : World} {base : Nat} {ok : Nat → Prop} {v v0 v' : Value} {l : List ByteArray} (h : Kd.R Kd.string 9 w3 base ok v l) (hm : Road.Mine w3 v0 v' wr) (hb : ∀ k, base ≤ k → v0.ownBlock = some k → False) : Kd.R Kd.string 9 wr base ok v l := by
 refine Kd.R_mono (Kd.R_move (Kd.R_bound h) (fun k hk' => ?_)) (fun _ q => q.1)
 exact hm.2.2 k hk'.2.2.1 (fun f => hb k hk'.2.1 f)
/-! ### remove, walked -/
set_option maxHeartbeats 40000000 in
set_option maxRecDepth 100000 in
theorem remove_calls (tk : ByteArray → Path) (N B hb : Nat) (E : List Ent) (s : ByteArray) (v : Int) (w : World) (h : ListAt tk N w B hb E) (hBw : B ≤ w.heap.size) (hBh : B ≤ hb) (hv : okI v) (hne : tk s ≠ []) (hlen : (tk s).length < 1000000) (hok : ∀ i, i < (tk s).length → okS ((tk s).getD i ByteArray.empty))
  (hsp : ∃ k, LsQ.gsl_zzSplit.f k s { data := #[46] } = some (tk s)) (hinj : ∀ s', tk s' = tk s → s' = s) (hN : N < 1000000000000) (hE : E.length < 1000000) (hX : GLaid w) :
  Calls Tryd.prog 63 #[.pointer (some ⟨hb, 0, none⟩), .string s, .int .i64 v, .bool true] w fun e w' => RemQ tk N B hb E s v w e w' := by
 obtain ⟨root, T, hH, hM, hL⟩ := h
 obtain ⟨kq, hk⟩ := hsp
 obtain ⟨tks, htk⟩ : ∃ x, x = tk s := ⟨_, rfl⟩
 rw [← htk] at hne hlen hok hk hinj
 have hTn : 0 < tks.length := by cases hq : tks with | nil => exact absurd hq hne | cons a b => simp
 have HLK := Aside0.mk (lock_calls w hb root (E.length : Int) hH)
 have HSP := Aside0.mk (fun w1 => LsQ.gsl_zzSplit.calls kq s _ tks w1 hk)
 have HA := Aside0.mk (And.intro hH (And.intro hM (And.intro hL (And.intro hBw (And.intro hBh (And.intro hv (And.intro hlen (And.intro hok (And.intro hinj (And.intro htk (And.intro hN (And.intro hE (And.intro hX hTn)))))))))))))
 clear hH hM hL hBw hBh hv hne hlen hok hk hinj htk hN hE hX hTn
 go_enter_defers Tryd.func63, Tryd.ntmps63
 go_wp2_with fail
 refine HLK.out.mono ?_
 rintro en w1 ⟨rfl, h1, g1⟩
 have c6 := h1.cell 6 _ rfl
 have H1 := Aside0.mk (And.intro h1 g1)
 have hM1 : MemT tk N w1 B T E := HA.out.2.1.keepH HA.out.1 g1
 have hX1 : GLaid w1 := by
  refine HA.out.2.2.2.2.2.2.2.2.2.2.2.2.1.keep (fun k v hk e => (cell_same (g1.block _ (cell_lt hk) (fun f => ?_)) 0).trans hk)
  injection f with f
  subst f
  have hh := HA.out.1
  have := (cell_of_row w k 0 _ _ _ hh).symm.trans hk
  obtain ⟨⟨t, u, ha⟩, ⟨t', u', hb'⟩⟩ := HA.out.2.2.2.2.2.2.2.2.2.2.2.2.1
  rcases e with rfl | rfl
  ·
   rw [ha] at hk
   injection hk with hk
   rw [← hk] at this
   exact absurd this (by simp)
  ·
   rw [hb'] at hk
   injection hk with hk
   rw [← hk] at this
   exact absurd this (by simp)
 have HM1 := Aside0.mk (And.intro hM1 hX1)
 have err : ∀ (wr w' : World) (t : TypeId) (u : Value), Below w1.heap.size w1 wr → HeadAt w' hb 0 0 root (E.length : Int) → wr.grownBy w' (some hb) → (s, v) ∉ E → RemQ tk N B hb E s v w (.returned (.iface t u)) w' := fun wr w' t u b1 h6 g6 hn => by
  have hhr := (b1.block _ (lt_some H1.out.1)).trans H1.out.1
  refine ⟨_, rfl, .inr ⟨hn, ⟨_, _, rfl⟩, root, T, h6, (HM1.out.1.below b1).keepH hhr g6, HA.out.2.2.1⟩, ?_⟩
  exact (ChL.set HA.out.2.2.2.2.1 HA.out.1 rfl H1.out.2).trans ((ChL.of_below b1).trans (ChL.set HA.out.2.2.2.2.1 hhr rfl g6))
 have ERR := Aside0.mk err
 clear h1 g1 HLK hM1 hX1 err
 go_upto_region 7 with fail
 go_upto_region 8 with (first | (refine wpList_allocVar 119 12 z96 rfl rfl rfl z96_alloc ?_) | fail)
 have hrow0 : Road.AnyRow (w1.alloc (.cells z96 119)) w1.heap.size 3 (.slice (some ⟨w1.heap.size, 0, none⟩) 0 32) 0 [] := Road.AnyRow.start (Nat.le_refl _) (heap_alloc_new w1 _) (by unfold maxLen; omega) (by decide)
 have hbel0 : Below w1.heap.size w1 (w1.alloc (.cells z96 119)) := below_alloc (Below.refl _ _) _
 have hob := heap_alloc_new w1 (.cells z96 119)
 obtain ⟨w2, hw2⟩ : ∃ z, z = w1.alloc (.cells z96 119) := ⟨_, rfl⟩
 rw [← hw2] at hrow0 hbel0 hob
 rw [← hw2]
 have H2 := Aside0.mk (And.intro hrow0 hbel0)
 have hrw2 : w2.heap[w1.heap.size]? = some (.cells z96 119 (0, 0)) := hob
 clear hrow0 hbel0 hw2 hob
 go_wp2_with fail
 refine (HSP.out w2).mono ?_
 rintro en w3 ⟨v2, rfl, hR, hb2⟩
 obtain ⟨A2, c2, e2⟩ := Kd.R_slice hR
 subst e2
 have hw12 : w1.heap.size < w2.heap.size := lt_some hrw2
 have H3 := Aside0.mk (And.intro hR (And.intro (H2.out.1.below hb2) (And.intro (H2.out.2.trans (hb2.mono H2.out.2.size)) hw12)))
 clear hw12
 clear hR hb2 HSP hrw2 c6
 go_wp2_with fail
 go_loopw [9, 10, 11, 13, 37] (fun v9 v10 v11 v13 v37 wr => ∃ (i : Nat) (b7 : Bool) (a8 a9 : Option Addr), v37 = .int .i64 (i : Int) ∧ v9 = .bool b7 ∧ v10 = .pointer a8 ∧ v11 = .pointer a9 ∧ Aside0 (i ≤ tks.length ∧ (b7 = true → ∃ j, j < i ∧ tks.getD j ByteArray.empty = gts) ∧ (0 < i → a8 = adR (T.nd (tks.take i))) ∧ a9 = adR (T.lv (tks.take i)) ∧ ((0 < i → T.nd (tks.take i) ≠ none) → Road.AnyRow wr w1.heap.size 3 v13 i (lvC T tks i)) ∧ Road.Mine w3 (.slice (some ⟨w1.heap.size, 0, none⟩) 0 32) v13 wr) ∧ Aside0 (Below w1.heap.size w1 wr)) (fun _ _ _ _ v37 _ => Road.leftOf tks.length v37)
 case atStart =>
  obtain ⟨m, hm⟩ := HA.out.2.2.1.rt
  exact ⟨0, false, none, some ⟨root, 0, none⟩, rfl, rfl, rfl, rfl, ⟨Nat.zero_le _, (fun f => absurd f (by simp)), (fun f => absurd f (Nat.lt_irrefl 0)), by rw [List.take_zero, hm]; rfl, fun _ => H3.out.2.1, Road.Mine.start _ _⟩, ⟨H3.out.2.2.1⟩⟩
 case round =>
  obtain ⟨i, b7, a8, a9, rfl, rfl, rfl, rfl, HI, HBW⟩ := hrel
  clear H2
  have hMr : MemT tk N wr B T E := HM1.out.1.below HBW.out
  have hXr : GLaid wr := HM1.out.2.below HBW.out
  have hhr : HeadAt wr hb 1 (-1073741824) root (E.length : Int) := (HBW.out.block _ (lt_some H1.out.1)).trans H1.out.1
  have HHD := Aside0.mk hhr
  have HMR := Aside0.mk hMr
  rcases Nat.lt_or_ge i tks.length with hi | hi
  ·
   obtain ⟨hile, hb7, -, ha9, hrow, hmine⟩ := HI.out
   have hR := RS_mine H3.out.1 hmine (fun k hk f => by injection f with f; have := H3.out.2.2.2; have f' : w1.heap.size = k := f; omega)
   have hTl := HA.out.2.2.2.2.2.2.1
   have HWK := Aside0.mk (Road.wrap_nat i (by omega))
   have m1 := eq_true (show (i : Int) < (tks.length : Int) by omega)
   have m2 := eq_true hi
   have hto := HA.out.2.2.2.2.2.2.2.1 i hi
   obtain ⟨ad, ead, hcs⟩ := CS_at (Kd.R_reads' hR).2.2 i hi
   subst ead
   obtain ⟨t, ht⟩ : ∃ x, x = tks.getD i ByteArray.empty := ⟨_, rfl⟩
   rw [← ht] at hcs hto
   obtain ⟨⟨et, ev, ga⟩, ⟨et', ev', gb⟩⟩ := hXr
   have HT := Aside0.mk (And.intro ht (And.intro hi (And.intro hb7 (And.intro ha9 (And.intro hrow (And.intro hmine hto))))))
   clear hile hrow hR hmine hTl ht HI hMr hhr hb7 hi
   by_cases hz : t.size = 0
   ·
    -- an empty token
    have y1 : ((t.size : Int) == 0) = true := beq_iff_eq.2 (by omega)
    have y2 := eq_true (show (t.size : Int) = 0 by omega)
    have HZ := Aside0.mk hz
    clear hz ha9
    go_wp2_with fail
    refine leaves_cons (f := 61) (args := #[.pointer (some ⟨hb, 0, none⟩)]) (by simp) (by simp [go_sem]) ?_
    refine (unlock_calls_d .returning _ hb root _ HHD.out).mono ?_
    rintro e u' w6 ⟨rfl, rfl, h6, g6⟩
    refine ⟨_, results_tmp rfl _ _ _, ?_⟩
    exact ERR.out _ _ _ _ HBW.out h6 g6 (fun hin => ((HA.out.2.2.1.ok _ hin).1.tok i (by rw [show tk (s, v).1 = tks from HA.out.2.2.2.2.2.2.2.2.2.1.symm]; exact HT.out.2.1)).1 (by rw [show tk (s, v).1 = tks from HA.out.2.2.2.2.2.2.2.2.2.1.symm, ← HT.out.1]; exact HZ.out))
   ·
    cases b7 with
    | true =>
     have y1 : ((t.size : Int) == 0) = false := beq_eq_false_iff_ne.2 (by omega)
     have y2 := eq_false (show ¬ (t.size : Int) = 0 by omega)
     clear hz ha9
     go_wp2_with fail
     refine leaves_cons (f := 61) (args := #[.pointer (some ⟨hb, 0, none⟩)]) (by simp) (by simp [go_sem]) ?_
     refine (unlock_calls_d .returning _ hb root _ HHD.out).mono ?_
     rintro e u' w6 ⟨rfl, rfl, h6, g6⟩
     refine ⟨_, results_tmp rfl _ _ _, ?_⟩
     exact ERR.out _ _ _ _ HBW.out h6 g6 (fun hin => by obtain ⟨j, hj, hg⟩ : ∃ j, j < i ∧ tks.getD j ByteArray.empty = gts := (by first | exact HT.out.2.2.1 rfl | exact HT.out.2.2.1 trivial); have hk := HA.out.2.2.2.2.2.2.2.2.2.1; have := (HA.out.2.2.1.ok _ hin).1.last j (by rw [show tk (s, v).1 = tks from hk.symm]; have := HT.out.2.1; omega) (by rw [show tk (s, v).1 = tks from hk.symm]; exact hg); rw [show tk (s, v).1 = tks from hk.symm] at this; have := HT.out.2.1; omega)
    | false =>
     cases hr : T.lv (tks.take i) with
     | none =>
      rw [hr] at ha9
      have ha9' : a9 = none := ha9
      subst ha9'
      have y1 : ((t.size : Int) == 0) = false := beq_eq_false_iff_ne.2 (by omega)
      have y2 := eq_false (show ¬ (t.size : Int) = 0 by omega)
      have HR := Aside0.mk hr
      clear hz ha9 hr
      go_wp2_with fail
      refine leaves_cons (f := 61) (args := #[.pointer (some ⟨hb, 0, none⟩)]) (by simp) (by simp [go_sem]) ?_
      refine (unlock_calls_d .returning _ hb root _ HHD.out).mono ?_
      rintro e u' w6 ⟨rfl, rfl, h6, g6⟩
      refine ⟨_, results_tmp rfl _ _ _, ?_⟩
      exact ERR.out _ _ _ _ HBW.out h6 g6 (fun hin => by have hk := HA.out.2.2.2.2.2.2.2.2.2.1; have := HMR.out.ent s v hin; rw [← hk] at this; exact (way_nd HMR.out tks this (tks.length - i) i (by have := HT.out.2.1; omega)).2 (by have := HT.out.2.1; omega) HR.out)
     | some r =>
      rw [hr] at ha9
      have ha9' : a9 = some ⟨r.b, 0, none⟩ := ha9
      subst ha9'
      obtain ⟨p, hp⟩ : ∃ x, x = tks.take i := ⟨_, rfl⟩
      rw [← hp] at hr
      obtain ⟨k1, k2, k3, k4⟩ := HMR.out.lvl p r hr
      have c0 : wr.cell? ⟨r.b, 0, none⟩ = some (.map (some r.m)) := (cell_of_row wr r.b 0 _ _ _ k3).trans rfl
      have c1 : wr.cell? ⟨r.b, 1, none⟩ = some (ptR (T.nd (p ++ [star]))) := (cell_of_row wr r.b 1 _ _ _ k3).trans rfl
      have c2' : wr.cell? ⟨r.b, 2, none⟩ = some (ptR (T.nd (p ++ [gts]))) := (cell_of_row wr r.b 2 _ _ _ k3).trans rfl
      have HP := Aside0.mk (And.intro hp (And.intro hr k4))
      have ets : tks.take (i + 1) = p ++ [t] := by rw [take_snoc HT.out.2.1, ← hp, ← HT.out.1]
      have ETS := Aside0.mk ets
      have hcase := kind_of hz
      clear hp hr k1 k2 k3 k4 ha9 hz ets hto
      rcases hcase with ek | ek | ⟨n1, n2, c, ek⟩ | ⟨n0, n1, n2⟩
      ·
       -- kind 1
       subst ek
       cases hnd : T.nd (p ++ [star]) with
       | some q =>
        rw [show T.nd (p ++ [star]) = some q from hnd] at c1
        change _ = some (Value.pointer (some ⟨q.b, 0, none⟩)) at c1
        obtain ⟨aL, haL⟩ : ∃ a, a = adR (T.lv (p ++ [star])) := ⟨_, rfl⟩
        have cq : ∀ w5, Below w1.heap.size w1 w5 → w5.cell? ⟨q.b, 0, none⟩ = some (.pointer aL) := fun w5 hb5 => by
         rw [haL]
         exact (cell_of_row w5 q.b 0 _ _ _ ((HM1.out.1.below hb5).nod _ q hnd).2.2.1).trans rfl
        have CQ := Aside0.mk cq
        have hpn : 0 < i → T.nd p ≠ none := fun f => by
         rcases HMR.out.dn p (some_ne HP.out.2.1) with g | g
         ·
          rw [HP.out.1] at g
          have := congrArg List.length g
          have := HT.out.2.1
          rw [List.length_take, List.length_nil] at *
          omega
         ·
          exact g
        have HPN := Aside0.mk hpn
        have HND := Aside0.mk (And.intro hnd haL)
        clear hnd cq haL hpn
        go_upto_region 28 with (first | ((with_reducible refine gate_builtin (b := .append) (xs := #[.tmp 82, .tmp 87]) rfl ?_); at_builtin; refine Road.AnyRow.append2 (w0 := w1) rfl (.tmp 82) (.tmp 87) 120 118 (.agg #[.pointer none, .pointer none, .string ⟨#[]⟩]) 3 32 rfl Tryd.underlying120 lnt_info rfl (by decide) _ i (lvC T tks i) [.pointer (some ⟨r.b, 0, none⟩), .pointer (some ⟨q.b, 0, none⟩), .string star] rfl rfl rfl ?h1 ?h2 ?h3 ?h4 ?h5 w3 (.slice (some ⟨w1.heap.size, 0, none⟩) 0 32) HT.out.2.2.2.2.2.1 ?_; (case h1 => intro u hu; simp only [List.mem_cons, List.not_mem_nil, or_false] at hu; rcases hu with rfl | rfl | rfl <;> rfl); (case h2 => have := HA.out.2.2.2.2.2.2.1; have := HT.out.2.1; unfold maxLen; omega); (case h3 => have := HA.out.2.2.2.2.2.2.1; have := HT.out.2.1; omega); (case h4 => exact HT.out.2.2.2.2.1 (fun f => by rw [← HP.out.1]; exact HPN.out f)); (case h5 => exact HBW.out); intro vn_ w5 ho_ hb_ hm_; have hq5 : w5.cell? ⟨q.b, 0, none⟩ = some (.pointer aL) := CQ.out w5 hb_; have H5 := Aside0.mk (And.intro ho_ (And.intro hb_ hm_)); clear ho_ hb_ hm_) | fail)
        go_wp2_with fail
        go_roundw
        case rel =>
         refine ⟨i + 1, _, _, _, congrArg (Value.int .i64) HWK.out, rfl, rfl, rfl, ⟨HT.out.2.1, fun f => absurd f (by simp), fun _ => by rw [ETS.out, HND.out.1]; rfl, by rw [ETS.out]; exact HND.out.2, fun _ => ?_, H5.out.2.2⟩, ⟨H5.out.2.1⟩⟩
         have e := lvC_succ T tks i
         rw [← HP.out.1, HP.out.2.1, ETS.out, HND.out.1, ← HT.out.1] at e
         rw [e]
         exact H5.out.1
        case measure => rw [HWK.out]; exact Road.leftOf_lt (of_eq_true m2)
       | none =>
        rw [show T.nd (p ++ [star]) = none from hnd] at c1
        change _ = some (Value.pointer none) at c1
        have HND := Aside0.mk hnd
        clear hnd
        go_wp2_with fail
        go_roundw
        case rel =>
         refine ⟨i + 1, _, _, _, congrArg (Value.int .i64) HWK.out, rfl, rfl, rfl, ⟨HT.out.2.1, fun f => absurd f (by simp), fun _ => by rw [ETS.out, HND.out]; rfl, ?_, fun f => absurd HND.out (by rw [← ETS.out]; exact f (Nat.succ_pos i)), HT.out.2.2.2.2.2.1⟩, ⟨HBW.out⟩⟩
         rw [ETS.out]
         cases q : T.lv (p ++ [star]) with
         | none => rfl
         | some x =>
          rcases HMR.out.dn _ (some_ne q) with g | g
          ·
           exact absurd g (by simp)
          ·
           exact absurd HND.out g
        case measure => rw [HWK.out]; exact Road.leftOf_lt (of_eq_true m2)
      ·
       -- kind 2
       subst ek
       cases hnd : T.nd (p ++ [gts]) with
       | some q =>
        rw [show T.nd (p ++ [gts]) = some q from hnd] at c2'
        change _ = some (Value.pointer (some ⟨q.b, 0, none⟩)) at c2'
        obtain ⟨aL, haL⟩ : ∃ a, a = adR (T.lv (p ++ [gts])) := ⟨_, rfl⟩
        have cq : ∀ w5, Below w1.heap.size w1 w5 → w5.cell? ⟨q.b, 0, none⟩ = some (.pointer aL) := fun w5 hb5 => by
         rw [haL]
         exact (cell_of_row w5 q.b 0 _ _ _ ((HM1.out.1.below hb5).nod _ q hnd).2.2.1).trans rfl
        have CQ := Aside0.mk cq
        have hpn : 0 < i → T.nd p ≠ none := fun f => by
         rcases HMR.out.dn p (some_ne HP.out.2.1) with g | g
         ·
          rw [HP.out.1] at g
          have := congrArg List.length g
          have := HT.out.2.1
          rw [List.length_take, List.length_nil] at *
          omega
         ·
          exact g
        have HPN := Aside0.mk hpn
        have HND := Aside0.mk (And.intro hnd haL)
        clear hnd cq haL hpn
        go_upto_region 28 with (first | ((with_reducible refine gate_builtin (b := .append) (xs := #[.tmp 82, .tmp 87]) rfl ?_); at_builtin; refine Road.AnyRow.append2 (w0 := w1) rfl (.tmp 82) (.tmp 87) 120 118 (.agg #[.pointer none, .pointer none, .string ⟨#[]⟩]) 3 32 rfl Tryd.underlying120 lnt_info rfl (by decide) _ i (lvC T tks i) [.pointer (some ⟨r.b, 0, none⟩), .pointer (some ⟨q.b, 0, none⟩), .string gts] rfl rfl rfl ?h1 ?h2 ?h3 ?h4 ?h5 w3 (.slice (some ⟨w1.heap.size, 0, none⟩) 0 32) HT.out.2.2.2.2.2.1 ?_; (case h1 => intro u hu; simp only [List.mem_cons, List.not_mem_nil, or_false] at hu; rcases hu with rfl | rfl | rfl <;> rfl); (case h2 => have := HA.out.2.2.2.2.2.2.1; have := HT.out.2.1; unfold maxLen; omega); (case h3 => have := HA.out.2.2.2.2.2.2.1; have := HT.out.2.1; omega); (case h4 => exact HT.out.2.2.2.2.1 (fun f => by rw [← HP.out.1]; exact HPN.out f)); (case h5 => exact HBW.out); intro vn_ w5 ho_ hb_ hm_; have hq5 : w5.cell? ⟨q.b, 0, none⟩ = some (.pointer aL) := CQ.out w5 hb_; have H5 := Aside0.mk (And.intro ho_ (And.intro hb_ hm_)); clear ho_ hb_ hm_) | fail)
        go_wp2_with fail
        go_roundw
        case rel =>
         refine ⟨i + 1, _, _, _, congrArg (Value.int .i64) HWK.out, rfl, rfl, rfl, ⟨HT.out.2.1, fun _ => ⟨i, Nat.lt_succ_self i, HT.out.1.symm⟩, fun _ => by rw [ETS.out, HND.out.1]; rfl, by rw [ETS.out]; exact HND.out.2, fun _ => ?_, H5.out.2.2⟩, ⟨H5.out.2.1⟩⟩
         have e := lvC_succ T tks i
         rw [← HP.out.1, HP.out.2.1, ETS.out, HND.out.1, ← HT.out.1] at e
         rw [e]
         exact H5.out.1
        case measure => rw [HWK.out]; exact Road.leftOf_lt (of_eq_true m2)
       | none =>
        rw [show T.nd (p ++ [gts]) = none from hnd] at c2'
        change _ = some (Value.pointer none) at c2'
        have HND := Aside0.mk hnd
        clear hnd
        go_wp2_with fail
        go_roundw
        case rel =>
         refine ⟨i + 1, _, _, _, congrArg (Value.int .i64) HWK.out, rfl, rfl, rfl, ⟨HT.out.2.1, fun _ => ⟨i, Nat.lt_succ_self i, HT.out.1.symm⟩, fun _ => by rw [ETS.out, HND.out]; rfl, ?_, fun f => absurd HND.out (by rw [← ETS.out]; exact f (Nat.succ_pos i)), HT.out.2.2.2.2.2.1⟩, ⟨HBW.out⟩⟩
         rw [ETS.out]
         cases q : T.lv (p ++ [gts]) with
         | none => rfl
         | some x =>
          rcases HMR.out.dn _ (some_ne q) with g | g
          ·
           exact absurd g (by simp)
          ·
           exact absurd HND.out g
        case measure => rw [HWK.out]; exact Road.leftOf_lt (of_eq_true m2)
      ·
       -- kind 3
       have HN := Aside0.mk (And.intro n1 n2)
       have z1 : ¬ c.toNat = 42 := fun f => n1 (by rw [ek]; exact congrArg (fun z => ByteArray.mk #[z]) (UInt8.toNat_inj.1 f))
       have z2 : ¬ c.toNat = 62 := fun f => n2 (by rw [ek]; exact congrArg (fun z => ByteArray.mk #[z]) (UInt8.toNat_inj.1 f))
       have y1 : ((c.toNat : Int) == 42) = false := beq_eq_false_iff_ne.2 (fun f => z1 (by omega))
       have y2 : ((c.toNat : Int) == 62) = false := beq_eq_false_iff_ne.2 (fun f => z2 (by omega))
       have y7 : ∀ hh, ((((({ data := #[c] } : ByteArray)[0]'hh).toNat : Nat) : Int) == 42) = false := fun _ => y1
       have y8 : ∀ hh, ((((({ data := #[c] } : ByteArray)[0]'hh).toNat : Nat) : Int) == 62) = false := fun _ => y2
       clear n1 n2 z1 z2
       subst ek
       have hlook := NAt.look HP.out.2.2 HT.out.2.2.2.2.2.2 (T.nd (p ++ [({ data := #[c] } : ByteArray)])) (fun d => ⟨fun f => f.2.2, fun f => ⟨HN.out.1, HN.out.2, f⟩⟩)
       cases hnd : T.nd (p ++ [({ data := #[c] } : ByteArray)]) with
       | some q =>
        rw [hnd] at hlook
        change _ = Result.ok (Value.pointer (some ⟨q.b, 0, none⟩)) wr at hlook
        obtain ⟨aL, haL⟩ : ∃ a, a = adR (T.lv (p ++ [({ data := #[c] } : ByteArray)])) := ⟨_, rfl⟩
        have cq : ∀ w5, Below w1.heap.size w1 w5 → w5.cell? ⟨q.b, 0, none⟩ = some (.pointer aL) := fun w5 hb5 => by
         rw [haL]
         exact (cell_of_row w5 q.b 0 _ _ _ ((HM1.out.1.below hb5).nod _ q hnd).2.2.1).trans rfl
        have CQ := Aside0.mk cq
        have hpn : 0 < i → T.nd p ≠ none := fun f => by
         rcases HMR.out.dn p (some_ne HP.out.2.1) with g | g
         ·
          rw [HP.out.1] at g
          have := congrArg List.length g
          have := HT.out.2.1
          rw [List.length_take, List.length_nil] at *
          omega
         ·
          exact g
        have HPN := Aside0.mk hpn
        have HND := Aside0.mk (And.intro hnd haL)
        clear hnd cq haL hpn
        go_upto_region 28 with (first | ((with_reducible refine gate_builtin (b := .append) (xs := #[.tmp 82, .tmp 87]) rfl ?_); at_builtin; refine Road.AnyRow.append2 (w0 := w1) rfl (.tmp 82) (.tmp 87) 120 118 (.agg #[.pointer none, .pointer none, .string ⟨#[]⟩]) 3 32 rfl Tryd.underlying120 lnt_info rfl (by decide) _ i (lvC T tks i) [.pointer (some ⟨r.b, 0, none⟩), .pointer (some ⟨q.b, 0, none⟩), .string ({ data := #[c] } : ByteArray)] rfl rfl rfl ?h1 ?h2 ?h3 ?h4 ?h5 w3 (.slice (some ⟨w1.heap.size, 0, none⟩) 0 32) HT.out.2.2.2.2.2.1 ?_; (case h1 => intro u hu; simp only [List.mem_cons, List.not_mem_nil, or_false] at hu; rcases hu with rfl | rfl | rfl <;> rfl); (case h2 => have := HA.out.2.2.2.2.2.2.1; have := HT.out.2.1; unfold maxLen; omega); (case h3 => have := HA.out.2.2.2.2.2.2.1; have := HT.out.2.1; omega); (case h4 => exact HT.out.2.2.2.2.1 (fun f => by rw [← HP.out.1]; exact HPN.out f)); (case h5 => exact HBW.out); intro vn_ w5 ho_ hb_ hm_; have hq5 : w5.cell? ⟨q.b, 0, none⟩ = some (.pointer aL) := CQ.out w5 hb_; have H5 := Aside0.mk (And.intro ho_ (And.intro hb_ hm_)); clear ho_ hb_ hm_) | fail)
        go_wp2_with fail
        go_roundw
        case rel =>
         refine ⟨i + 1, _, _, _, congrArg (Value.int .i64) HWK.out, rfl, rfl, rfl, ⟨HT.out.2.1, fun f => absurd f (by simp), fun _ => by rw [ETS.out, HND.out.1]; rfl, by rw [ETS.out]; exact HND.out.2, fun _ => ?_, H5.out.2.2⟩, ⟨H5.out.2.1⟩⟩
         have e := lvC_succ T tks i
         rw [← HP.out.1, HP.out.2.1, ETS.out, HND.out.1, ← HT.out.1] at e
         rw [e]
         exact H5.out.1
        case measure => rw [HWK.out]; exact Road.leftOf_lt (of_eq_true m2)
       | none =>
        rw [hnd] at hlook
        change _ = Result.ok (Value.pointer none) wr at hlook
        have HND := Aside0.mk hnd
        clear hnd
        go_wp2_with fail
        go_roundw
        case rel =>
         refine ⟨i + 1, _, _, _, congrArg (Value.int .i64) HWK.out, rfl, rfl, rfl, ⟨HT.out.2.1, fun f => absurd f (by simp), fun _ => by rw [ETS.out, HND.out]; rfl, ?_, fun f => absurd HND.out (by rw [← ETS.out]; exact f (Nat.succ_pos i)), HT.out.2.2.2.2.2.1⟩, ⟨HBW.out⟩⟩
         rw [ETS.out]
         cases q : T.lv (p ++ [({ data := #[c] } : ByteArray)]) with
         | none => rfl
         | some x =>
          rcases HMR.out.dn _ (some_ne q) with g | g
          ·
           exact absurd g (by simp)
          ·
           exact absurd HND.out g
        case measure => rw [HWK.out]; exact Road.leftOf_lt (of_eq_true m2)
      ·
       -- kind 4
       have HN := Aside0.mk (And.intro n1 n2)
       have y1 := eq_true (show (1 : Int) < (t.size : Int) by omega)
       have y2 := eq_true n0
       have y3 : decide ((1 : Int) < (t.size : Int)) = true := decide_eq_true (by omega)
       have y4 : ((t.size : Int) == 0) = false := beq_eq_false_iff_ne.2 (by omega)
       have y5 := eq_false (show ¬ (t.size : Int) = 0 by omega)
       have y6 := eq_false (show ¬ t.size = 0 by omega)
       clear n0 n1 n2
       have hlook := NAt.look HP.out.2.2 HT.out.2.2.2.2.2.2 (T.nd (p ++ [t])) (fun d => ⟨fun f => f.2.2, fun f => ⟨HN.out.1, HN.out.2, f⟩⟩)
       cases hnd : T.nd (p ++ [t]) with
       | some q =>
        rw [hnd] at hlook
        change _ = Result.ok (Value.pointer (some ⟨q.b, 0, none⟩)) wr at hlook
        obtain ⟨aL, haL⟩ : ∃ a, a = adR (T.lv (p ++ [t])) := ⟨_, rfl⟩
        have cq : ∀ w5, Below w1.heap.size w1 w5 → w5.cell? ⟨q.b, 0, none⟩ = some (.pointer aL) := fun w5 hb5 => by
         rw [haL]
         exact (cell_of_row w5 q.b 0 _ _ _ ((HM1.out.1.below hb5).nod _ q hnd).2.2.1).trans rfl
        have CQ := Aside0.mk cq
        have hpn : 0 < i → T.nd p ≠ none := fun f => by
         rcases HMR.out.dn p (some_ne HP.out.2.1) with g | g
         ·
          rw [HP.out.1] at g
          have := congrArg List.length g
          have := HT.out.2.1
          rw [List.length_take, List.length_nil] at *
          omega
         ·
          exact g
        have HPN := Aside0.mk hpn
        have HND := Aside0.mk (And.intro hnd haL)
        clear hnd cq haL hpn
        go_upto_region 28 with (first | ((with_reducible refine gate_builtin (b := .append) (xs := #[.tmp 82, .tmp 87]) rfl ?_); at_builtin; refine Road.AnyRow.append2 (w0 := w1) rfl (.tmp 82) (.tmp 87) 120 118 (.agg #[.pointer none, .pointer none, .string ⟨#[]⟩]) 3 32 rfl Tryd.underlying120 lnt_info rfl (by decide) _ i (lvC T tks i) [.pointer (some ⟨r.b, 0, none⟩), .pointer (some ⟨q.b, 0, none⟩), .string t] rfl rfl rfl ?h1 ?h2 ?h3 ?h4 ?h5 w3 (.slice (some ⟨w1.heap.size, 0, none⟩) 0 32) HT.out.2.2.2.2.2.1 ?_; (case h1 => intro u hu; simp only [List.mem_cons, List.not_mem_nil, or_false] at hu; rcases hu with rfl | rfl | rfl <;> rfl); (case h2 => have := HA.out.2.2.2.2.2.2.1; have := HT.out.2.1; unfold maxLen; omega); (case h3 => have := HA.out.2.2.2.2.2.2.1; have := HT.out.2.1; omega); (case h4 => exact HT.out.2.2.2.2.1 (fun f => by rw [← HP.out.1]; exact HPN.out f)); (case h5 => exact HBW.out); intro vn_ w5 ho_ hb_ hm_; have hq5 : w5.cell? ⟨q.b, 0, none⟩ = some (.pointer aL) := CQ.out w5 hb_; have H5 := Aside0.mk (And.intro ho_ (And.intro hb_ hm_)); clear ho_ hb_ hm_) | fail)
        go_wp2_with fail
        go_roundw
        case rel =>
         refine ⟨i + 1, _, _, _, congrArg (Value.int .i64) HWK.out, rfl, rfl, rfl, ⟨HT.out.2.1, fun f => absurd f (by simp), fun _ => by rw [ETS.out, HND.out.1]; rfl, by rw [ETS.out]; exact HND.out.2, fun _ => ?_, H5.out.2.2⟩, ⟨H5.out.2.1⟩⟩
         have e := lvC_succ T tks i
         rw [← HP.out.1, HP.out.2.1, ETS.out, HND.out.1, ← HT.out.1] at e
         rw [e]
         exact H5.out.1
        case measure => rw [HWK.out]; exact Road.leftOf_lt (of_eq_true m2)
       | none =>
        rw [hnd] at hlook
        change _ = Result.ok (Value.pointer none) wr at hlook
        have HND := Aside0.mk hnd
        clear hnd
        go_wp2_with fail
        go_roundw
        case rel =>
         refine ⟨i + 1, _, _, _, congrArg (Value.int .i64) HWK.out, rfl, rfl, rfl, ⟨HT.out.2.1, fun f => absurd f (by simp), fun _ => by rw [ETS.out, HND.out]; rfl, ?_, fun f => absurd HND.out (by rw [← ETS.out]; exact f (Nat.succ_pos i)), HT.out.2.2.2.2.2.1⟩, ⟨HBW.out⟩⟩
         rw [ETS.out]
         cases q : T.lv (p ++ [t]) with
         | none => rfl
         | some x =>
          rcases HMR.out.dn _ (some_ne q) with g | g
          ·
           exact absurd g (by simp)
          ·
           exact absurd HND.out g
        case measure => rw [HWK.out]; exact Road.leftOf_lt (of_eq_true m2)
  ·
   -- behind the way down
   obtain ⟨hile, -, ha8, -, hrow, -⟩ := HI.out
   have hTl := HA.out.2.2.2.2.2.2.1
   have hTn := HA.out.2.2.2.2.2.2.2.2.2.2.2.2.2
   have hie : i = tks.length := by omega
   subst hie
   have hx := ha8 hTn
   rw [List.take_length] at hx hrow
   subst hx
   have htk := HA.out.2.2.2.2.2.2.2.2.2.1
   have hinj := HA.out.2.2.2.2.2.2.2.2.1
   have HRF := Aside0.mk (rfn_calls HMR.out HA.out.2.2.1.nd HA.out.2.2.2.2.2.1 htk.symm (fun s' e => hinj s' (e.trans htk.symm)) (.pointer (some ⟨hb, 0, none⟩)))
   have m1 := eq_false (show ¬ ((tks.length : Nat) : Int) < (tks.length : Int) by omega)
   have m2 := eq_false (show ¬ tks.length < tks.length by omega)
   obtain ⟨⟨et, ev, ga⟩, ⟨et', ev', gb⟩⟩ := hXr
   have HRW := Aside0.mk hrow
   clear hile ha8 hrow hTl hTn hinj htk HI hMr hhr hi H3
   go_wp2_with fail
   refine HRF.out.mono ?_
   rintro en w5 ⟨b, rfl, hpost⟩
   rcases hpost with ⟨rfl, hin, hM5, q, hq, hg5⟩ | ⟨rfl, hnin, rfl⟩
   ·
    have hqm := HM1.out.1.ndlt hq
    have hh5 : HeadAt w5 hb 1 (-1073741824) root (E.length : Int) := (hg5.block _ (lt_some HHD.out) (fun f => by
     obtain ⟨es, c, k5⟩ := (HMR.out.nod _ q hq).2.2.2.obj
     exact ne_obj HHD.out k5 map_ne (by injection f))).trans HHD.out
    have hch5 : ChL B w w5 := by
     obtain ⟨es, c, k5⟩ := (HMR.out.nod _ q hq).2.2.2.obj
     exact (ChL.set HA.out.2.2.2.2.1 HA.out.1 rfl H1.out.2).trans ((ChL.of_below HBW.out).trans (ChL.set (HMR.out.nod _ q hq).2.1 k5 rfl hg5))
    have hrow := HRW.out (fun _ => some_ne hq)
    have hcnt := len_dropE HA.out.2.2.1.nd hin
    have hEl := HA.out.2.2.2.2.2.2.2.2.2.2.2.1
    have c7 : w5.cell? ⟨hb, 7, none⟩ = some (.int .u32 (E.length : Int)) := hh5.cell 7 _ rfl
    have z7 := not_frozen hh5 7
    have hTl := HA.out.2.2.2.2.2.2.1
    have hTn := HA.out.2.2.2.2.2.2.2.2.2.2.2.2.2
    have hw1r := HBW.out.size
    have hhlt := lt_some H1.out.1
    obtain ⟨cn, hcn⟩ : ∃ z : Int, z = ((dropE E (s, v)).length : Int) := ⟨_, rfl⟩
    have hg6 := grown_setCell w5 hb 7 (.int .u32 cn)
    have hh6 : HeadAt (w5.setCell ⟨hb, 7, none⟩ (.int .u32 cn)) hb 1 (-1073741824) root cn := Road.setCell_same_heap 7 _ hh5
    have hrow5 : Road.AnyRow w5 w1.heap.size 3 u13 tks.length (lvC T tks tks.length) := hrow.move (fun k hk => hg5.block k (hrow.base k hk).2 (fun f => by injection f with f; have := (hrow.base k hk).1; omega))
    have hrow6 : Road.AnyRow (w5.setCell ⟨hb, 7, none⟩ (.int .u32 cn)) w1.heap.size 3 u13 tks.length (lvC T tks tks.length) := hrow5.move (fun k hk => hg6.block k (hrow5.base k hk).2 (fun f => by injection f with f; have := (hrow5.base k hk).1; omega))
    have hway := HA.out.2.1.ent s v hin
    rw [← HA.out.2.2.2.2.2.2.2.2.2.1] at hway
    have hRI : RemI tk N B hb root cn (dropE E (s, v)) w tks T w1.heap.size u13 tks.length T (w5.setCell ⟨hb, 7, none⟩ (.int .u32 cn)) := by
     refine ⟨hM5.keepH hh5 hg6, hh6, hch5.trans (ChL.set HA.out.2.2.2.2.1 hh5 rfl hg6), hrow6, fun j r hr => HM1.out.1.lvlt hr, fun j _ => ⟨rfl, rfl⟩, HA.out.2.2.1.full, fun p hp => ?_, HA.out.2.2.1.nil, HA.out.2.2.1.rt⟩
     obtain ⟨e, he, hpe⟩ := HA.out.2.2.1.live p hp
     by_cases c : e = (s, v)
     ·
      subst c
      right
      rw [HA.out.2.2.2.2.2.2.2.2.2.1]
      exact ⟨hpe, hpe.length_le⟩
     ·
      exact .inl ⟨e, mem_dropE.2 ⟨c, he⟩, hpe⟩
    obtain ⟨g, cap, hv13⟩ : ∃ g cap, u13 = Value.slice (some ⟨g, 0, none⟩) tks.length cap := by
     rcases hrow.2 with ⟨_, h0⟩ | ⟨g, cap, cur, T, e, _⟩
     ·
      omega
     ·
      exact ⟨g, cap, e⟩
    subst hv13
    have HRI := Aside0.mk (And.intro hRI (And.intro hin (And.intro hcn (And.intro hway (And.intro hTl hTn)))))
    have e2 : wrap64 ((tks.length : Int) - 1) = (tks.length : Int) - 1 := Road.w64 _ _ rfl (by omega) (by omega)
    have e1 : IntKind.u32.wrap ((E.length : Int) - 1) = cn := wrap32u _ _ (by omega) (by omega) (by omega)
    clear hqm hh5 hch5 hrow hcnt hEl hTl hTn hw1r hhlt hcn hg6 hh6 hrow5 hrow6 hway hRI hM5 hq hg5 hin HRF ga gb
    go_wp2_with fail
    go_loopw [17] (fun v17 wr2 => ∃ (k : Nat) (T2 : Trie) (z : Int), v17 = .int .i64 z ∧ Aside0 (z = (k : Int) - 1 ∧ k ≤ tks.length ∧ RemI tk N B hb root cn (dropE E (s, v)) w tks T w1.heap.size (.slice (some ⟨g, 0, none⟩) tks.length cap) k T2 wr2)) (fun v17 _ => upOf v17)
    case atStart => exact ⟨tks.length, T, _, congrArg (Value.int .i64) e2, ⟨rfl, Nat.le_refl _, HRI.out.1⟩⟩
    case round =>
     obtain ⟨k, T2, z, rfl, HK⟩ := hrel
     clear e1 e2 c7 z7
     cases k with
     | zero =>
      have hz : z = -1 := by have := HK.out.1; omega
      subst hz
      go_wp2_with fail
      refine leaves_cons (f := 61) (args := #[.pointer (some ⟨hb, 0, none⟩)]) (by simp) (by simp [go_sem]) ?_
      refine (unlock_calls_d .returning _ hb root _ HK.out.2.2.head).mono ?_
      rintro e u' w6 ⟨rfl, rfl, h6, g6⟩
      refine ⟨_, results_tmp rfl _ _ _, ?_⟩
      obtain ⟨-, -, hR2⟩ := HK.out
      rw [HRI.out.2.2.1] at h6
      refine ⟨_, rfl, .inl ⟨HRI.out.2.1, rfl, root, T2, h6, hR2.mem.keepH hR2.head g6, ?_⟩, hR2.ch.trans (ChL.set HA.out.2.2.2.2.1 hR2.head rfl g6)⟩
      refine ⟨hR2.full, fun p hp => ?_, hR2.nil, hR2.rt, nodup_dropE HA.out.2.2.1.nd, fun e he => HA.out.2.2.1.ok e (mem_dropE.1 he).2⟩
      rcases hR2.live p hp with q | ⟨_, q⟩
      ·
       exact q
      ·
       have : p = [] := List.eq_nil_of_length_eq_zero (by omega)
       subst this
       exact absurd hR2.nil hp
     | succ j =>
      have hz : z = (j : Int) := by have := HK.out.1; omega
      subst hz
      obtain ⟨-, hjn, hR2⟩ := HK.out
      have hTl := HRI.out.2.2.2.2.1
      obtain ⟨-, hlvj⟩ := way_nd HA.out.2.1 tks HRI.out.2.2.2.1 (tks.length - j) j (by omega)
      obtain ⟨hndj, -⟩ := way_nd HA.out.2.1 tks HRI.out.2.2.2.1 (tks.length - (j + 1)) (j + 1) (by omega)
      cases hr : T.lv (tks.take j) with
      | none => exact absurd hr (hlvj (by omega))
      | some r =>
      cases hq : T.nd (tks.take (j + 1)) with
      | none => exact absurd hq (hndj (Nat.succ_pos j))
      | some q =>
      obtain ⟨l1, l2, l3⟩ := lvC_get T tks tks.length j (by omega)
      rw [hr] at l1
      rw [hq] at l2
      obtain ⟨t, ht⟩ : ∃ x, x = tks.getD j ByteArray.empty := ⟨_, rfl⟩
      rw [← ht] at l3
      have HTJ := Aside0.mk ht
      clear ht
      have d1 : wr.cell? ⟨g, j * 3, none⟩ = some (.pointer (some ⟨r.b, 0, none⟩)) := by have := hR2.row.cells (g := g) rfl _ _ l1; rwa [add_plain] at this
      have d2 : wr.cell? ⟨g, j * 3 + 1, none⟩ = some (.pointer (some ⟨q.b, 0, none⟩)) := by have := hR2.row.cells (g := g) rfl _ _ l2; rwa [add_plain] at this
      have d3 : wr.cell? ⟨g, j * 3 + 2, none⟩ = some (.string t) := by have := hR2.row.cells (g := g) rfl _ _ l3; rwa [add_plain] at this
      have i1 := eq_true (show (0 : Int) ≤ (j : Int) by omega)
      have i2 : decide ((0 : Int) ≤ (j : Int)) = true := decide_eq_true (by omega)
      have i3 := eq_true (show (j : Int) < (tks.length : Int) by omega)
      have i4 := eq_true (show j < tks.length by omega)
      have i5 : decide ((j : Int) < (tks.length : Int)) = true := decide_eq_true (by omega)
      have HJ := Aside0.mk (And.intro hjn (And.intro hR2 (And.intro hr (And.intro hq hTl))))
      clear hjn hR2 hlvj hndj hr hq l1 l2 l3 hTl HK
      go_wp2_with fail
      go_quiet (fail)
      go_wp2_with fail
      obtain ⟨W, hW⟩ : ∃ W, W = wr.drewN nq := ⟨_, rfl⟩
      rw [← hW]
      have hRW : RemI tk N B hb root cn (dropE E (s, v)) w tks T w1.heap.size (.slice (some ⟨g, 0, none⟩) tks.length cap) (j + 1) T2 W := hW ▸ HJ.out.2.1.drewN nq
      have e3 : tks.take (j + 1) = tks.take j ++ [t] := by rw [take_snoc (by have := HJ.out.1; omega), ← HTJ.out]
      have hq2 : T2.nd (tks.take (j + 1)) = some q := (hRW.same (j + 1) (Nat.le_refl _)).1.trans HJ.out.2.2.2.1
      have hr2 : T2.lv (tks.take j) = some r := (hRW.same j (Nat.le_succ _)).2.trans HJ.out.2.2.1
      have HIE := Aside0.mk (isEmpty_calls hRW.mem HA.out.2.2.2.2.2.2.2.2.2.2.1 hq2 (hRW.full _ (some_ne hq2)))
      have HW := Aside0.mk (And.intro hRW (And.intro e3 (And.intro hq2 hr2)))
      have HE := Aside0.mk (Road.w64 ((j : Int) - 1) ((j : Int) - 1) rfl (by omega) (by have := HJ.out.2.2.2.2; have := HJ.out.1; omega))
      clear hW hRW e3 hq2 hr2 d1 d2 d3
      refine HIE.out.mono ?_
      rintro en w6 ⟨b, rfl, hbe, rfl⟩
      have HBE := Aside0.mk hbe
      clear hbe HIE
      cases b with
      | false =>
       go_wp2_with fail
       go_roundw
       case rel => exact ⟨j, T2, _, congrArg (Value.int .i64) HE.out, ⟨rfl, by have := HJ.out.1; omega, HW.out.1.keep (fun f => absurd (HBE.out.2 f) (by simp))⟩⟩
       case measure => rw [HE.out]; show ((j : Int) - 1 + 1).toNat < ((j : Int) + 1).toNat; omega
      | true =>
       have hbe := HBE.out.1 rfl
       rw [HW.out.2.1] at hbe
       have HPR := Aside0.mk (prune_calls HW.out.1.mem (by rw [HTJ.out]; exact HA.out.2.2.2.2.2.2.2.1 j (by have := HJ.out.1; omega)) HW.out.2.2.2 (by rw [← HW.out.2.1]; exact HW.out.2.2.1) hbe.1 hbe.2)
       clear hbe
       go_wp2_with fail
       refine HPR.out.mono ?_
       rintro en w7 ⟨rfl, hM7, hg7⟩
       have H7 := Aside0.mk (HW.out.1.prune (by have := HJ.out.1; omega) HTJ.out HW.out.2.2.2 hM7 hg7)
       clear hM7 hg7 HPR
       go_wp2_with fail
       go_roundw
       case rel => exact ⟨j, _, _, congrArg (Value.int .i64) HE.out, ⟨rfl, by have := HJ.out.1; omega, H7.out⟩⟩
       case measure => rw [HE.out]; show ((j : Int) - 1 + 1).toNat < ((j : Int) + 1).toNat; omega
   ·
    go_wp2_with fail
    refine leaves_cons (f := 61) (args := #[.pointer (some ⟨hb, 0, none⟩)]) (by simp) (by simp [go_sem]) ?_
    refine (unlock_calls_d .returning _ hb root _ HHD.out).mono ?_
    rintro e u' w6 ⟨rfl, rfl, h6, g6⟩
    refine ⟨_, results_tmp rfl _ _ _, ?_⟩
    exact ERR.out _ _ _ _ HBW.out h6 g6 (hnin)

end Go.Proofs.YtcnbnljlopopkaaDoor.LsC

-- thin
