/- WALKS: the specification's wheel: turns over a list of tasks. -/
import Derived.Test.YtnkjlfadegjjoaaDoorProg
import Derived.Below
import Derived.Deep.Draws
import Derived.Deep.AppendLies
import Derived.Maps.AppendAt
import Derived.OwnWalk
import Derived.Laws.BytesArg
import Derived.Laws.MakeOwn
import Derived.Laws.OwnMore
import Derived.Deep.OwnRows
import Derived.Tactics
import Derived.Lib.ConvBytes
import Derived.Laws.Slices
import Derived.WalkKit
import Derived.KernelRfl
import Derived.RowKit3
import Derived.Deep.LoopGhost
import Derived.Deep.QuietTactic
import Derived.BigQuiet
import Derived.WideLaws
import Derived.Deep.DeepCutAuto
import Derived.Deep.CutBlock
import Derived.Deep.RegionHeld3
import Derived.Laws.Rows
import Derived.Lib.AppendStr
import Derived.ArgAppend
import Derived.Laws.IdiomCopy
import Derived.OrdersHeld
import Derived.Laws.BitsLemmas
import Derived.RowKit
import Derived.Test.YtnkjlfadegjjoaaDoorRoad
import Derived.Test.YtnkjlfadegjjoaaDoorWWords
import Derived.Test.YtnkjlfadegjjoaaDoorWLast
import Derived.Test.YtnkjlfadegjjoaaDoorWTab
import Derived.Test.YtnkjlfadegjjoaaDoorWFour
import Derived.Test.YtnkjlfadegjjoaaDoorWQPut
import Derived.Test.YtnkjlfadegjjoaaDoorWApart
import Derived.Test.YtnkjlfadegjjoaaDoorWArr
import Derived.Test.YtnkjlfadegjjoaaDoorWZeros
import Derived.Test.YtnkjlfadegjjoaaDoorWFoot
import Derived.Test.YtnkjlfadegjjoaaDoorWKept
import Derived.Test.YtnkjlfadegjjoaaDoorWShare
import Derived.Test.YtnkjlfadegjjoaaDoorWN
import Derived.Test.YtnkjlfadegjjoaaDoorWFootNe
import Derived.Test.YtnkjlfadegjjoaaDoorWAt
import Derived.Test.YtnkjlfadegjjoaaDoorWEqStruct
import Derived.Test.YtnkjlfadegjjoaaDoorWRepsOne
import Derived.Test.YtnkjlfadegjjoaaDoorWInv
import Derived.Test.YtnkjlfadegjjoaaDoorWInvWords
import Derived.Test.YtnkjlfadegjjoaaDoorWGuard
import Derived.Test.YtnkjlfadegjjoaaDoorWNEv
import Derived.Test.YtnkjlfadegjjoaaDoorWMore
import Derived.Test.YtnkjlfadegjjoaaDoorWhS
import Derived.Test.YtnkjlfadegjjoaaDoorWhQa
namespace Go.Proofs.YtnkjlfadegjjoaaDoor.WhP
open Go.RowKit Go.Proofs.YtnkjlfadegjjoaaDoorW.PrintWords Go.Proofs.YtnkjlfadegjjoaaDoorW.PrintLast Go.Proofs.YtnkjlfadegjjoaaDoorW.PrintMore
attribute [local go_sem] max2_int min2_int max_two min_two max_three min_three max_four min_four   -- for this text's walks alone
set_option linter.unusedVariables false
set_option linter.unusedSimpArgs false



open Go.Maps
open _root_.Go.Proofs.YtnkjlfadegjjoaaDoor.WhA
open _root_.Go.Proofs.YtnkjlfadegjjoaaDoor.WhB
open _root_.Go.Proofs.YtnkjlfadegjjoaaDoor.WhC
open _root_.Go.Proofs.YtnkjlfadegjjoaaDoor.WhS
/-! ### seat, without, put: what the print's walks come to -/
open _root_.Go.Proofs.YtnkjlfadegjjoaaDoor.WhQ (spec_seat.f spec_seat.l0 spec_seat.calls spec_without.f spec_without.calls spec_put.f spec_put.l0 spec_put.calls)
abbrev Q39 := _root_.Go.Proofs.YtnkjlfadegjjoaaDoor.WhQ.S39
def gQ (y : Tk) : Q39 := ⟨y.1, y.2⟩
def fQ (x : Q39) : Tk := (x.f0, x.f1)
theorem fgQ (l : List Tk) : (l.map gQ).map fQ = l := by
  rw [List.map_map]
  exact List.map_id _
theorem C_toQ {w : World} {A : Option Addr} {n : Nat} {ys : List Tk} (h : Kd.C kT w A n ys) : Kd.C _root_.Go.Proofs.YtnkjlfadegjjoaaDoor.WhQ.k39 w A n (ys.map gQ) := by
  obtain ⟨h1, h2, h3⟩ := h
  refine ⟨by rw [List.length_map]; exact h1, h2, fun hn => ?_⟩
  obtain ⟨ad, e, hc⟩ := h3 hn
  refine ⟨ad, e, fun j p hj => ?_⟩
  rw [List.getElem?_map] at hj
  obtain ⟨y, hy, rfl⟩ := Option.map_eq_some_iff.1 hj
  exact hc j y hy
theorem R_fromQ {w : World} {base : Nat} {ok : Nat → Prop} {v : Value} {rs : List Q39} (h : Kd.R _root_.Go.Proofs.YtnkjlfadegjjoaaDoor.WhQ.k39 39 w base ok v rs) : Kd.R kT 39 w base ok v (rs.map fQ) := by
  obtain ⟨h0, inner, ho, hr⟩ := h
  refine ⟨h0, inner, by rw [List.length_map]; exact ho, by rw [List.length_map]; exact hr.1, fun j p hj => ?_⟩
  rw [List.getElem?_map] at hj
  obtain ⟨y, hy, rfl⟩ := Option.map_eq_some_iff.1 hj
  exact hr.2 j y hy
/-- The place of a number. -/
def seatF : List Tk → Int → Nat → Int
  | [], _, _ => -1
  | y :: l, s, i => if y.1 = s then (i : Int) else seatF l s (i + 1)
theorem rdQ (ys : List Tk) (i : Nat) (h : i < ys.length) : _root_.Go.Proofs.YtnkjlfadegjjoaaDoor.WhQ.rd_T39 (ys.map gQ) (i : Int) = gQ (ys[i]'h) := by
  unfold _root_.Go.Proofs.YtnkjlfadegjjoaaDoor.WhQ.rd_T39
  rw [List.getD_eq_getElem?_getD, Int.toNat_natCast, List.getElem?_map, List.getElem?_eq_getElem h]
  rfl
theorem seat_ev (ys : List Tk) (s : Int) (hl : ys.length < 1000000000) : ∀ (m i : Nat), i + m = ys.length → spec_seat.l0 (m + 1) (ys.map gQ) s (i : Int) = some (seatF (ys.drop i) s i)
  | 0, i, h => by
    unfold spec_seat.l0
    rw [List.length_map, if_neg (by omega), List.drop_eq_nil_of_le (by omega)]
    rfl
  | m + 1, i, h => by
    have hi : i < ys.length := by omega
    unfold spec_seat.l0
    rw [List.length_map, if_pos (by omega), if_pos (by omega), rdQ ys i hi, List.drop_eq_getElem_cons hi, seatF]
    show (if (ys[i]'hi).1 = s then _ else _) = _
    by_cases c : (ys[i]'hi).1 = s
    · rw [if_pos c, if_pos c]
    · rw [if_neg c, if_neg c, Road.wrap_nat i (by omega)]
      exact seat_ev ys s hl m (i + 1) (by omega)
theorem seat_calls (ys : List Tk) (s : Int) (A : Option Addr) (c : Nat) (w : World) (hC : Kd.C kT w A ys.length ys) (hc : ys.length ≤ c) (hl : ys.length < 1000000000) :
    Calls Tryd.prog 15 #[.slice A ys.length c, .int .u64 s] w fun e w' => e = .returned (.int .i64 (seatF ys s 0)) ∧ ∃ n, w' = w.drewN n := by
  have := spec_seat.calls (ys.length + 1) A c (ys.map gQ) s (seatF ys s 0) w (by rw [List.length_map]; exact C_toQ hC) (by rw [List.length_map]; exact hc) (by
    have := seat_ev ys s hl ys.length 0 (by omega)
    exact this)
  rw [List.length_map] at this
  refine this.mono ?_
  rintro e w' ⟨h1, h2⟩
  exact ⟨h1, h2.out⟩
theorem without_ev (zs : List Q39) (k : Nat) (hl : zs.length < 1000000000) (hk : k < zs.length) : spec_without.f zs (k : Int) = some (zs.take k ++ zs.drop (k + 1)) := by
  unfold spec_without.f
  have e1 : wrap64 ((k : Int) + 1) = ((k + 1 : Nat) : Int) := Road.wrap_nat k (by omega)
  rw [e1]
  clear e1
  have a1 : (0 : Int) ≤ (k : Int) := by omega
  have a2 : (k : Int) ≤ (zs.length : Int) := by omega
  have a3 : (0 : Int) ≤ ((k + 1 : Nat) : Int) := by omega
  have a4 : ((k + 1 : Nat) : Int) ≤ (zs.length : Int) := by omega
  have a5 : ([] : List Q39).length + (zs.take k).length < 8796093022208 := by rw [List.length_take, List.length_nil]; omega
  have a6 : (([] : List Q39) ++ zs.take k).length + (zs.drop (k + 1)).length < 8796093022208 := by rw [List.nil_append, List.length_take, List.length_drop]; omega
  rw [Option.bind_some, if_pos a1, if_pos a2, Option.bind_some, Int.toNat_natCast, if_pos a5, Option.bind_some, if_pos a3, if_pos a4, Option.bind_some, Int.toNat_natCast, if_pos a6, List.nil_append]
theorem without_calls (ys : List Tk) (k : Nat) (A : Option Addr) (c : Nat) (w : World) (hC : Kd.C kT w A ys.length ys) (hc : ys.length ≤ c) (hl : ys.length < 1000000000) (hk : k < ys.length) :
    Calls Tryd.prog 16 #[.slice A ys.length c, .int .i64 (k : Int)] w fun e w' => ∃ v, e = .returned v ∧ Kd.R kT 39 w' w.heap.size (fun _ => True) v (ys.eraseIdx k) ∧ Below w.heap.size w w' := by
  have hev := without_ev (ys.map gQ) k (by rw [List.length_map]; exact hl) (by rw [List.length_map]; exact hk)
  have e2 : (ys.map gQ).take k ++ (ys.map gQ).drop (k + 1) = (ys.eraseIdx k).map gQ := by
    rw [List.eraseIdx_eq_take_drop_succ, List.map_append, List.map_take, List.map_drop]
  rw [e2] at hev
  have := spec_without.calls A c (ys.map gQ) (k : Int) _ w (by rw [List.length_map]; exact C_toQ hC) (by rw [List.length_map]; exact hc) hev
  rw [List.length_map] at this
  refine this.mono ?_
  rintro e w' ⟨v, h1, h2, h3⟩
  have := R_fromQ h2
  rw [fgQ] at this
  exact ⟨v, h1, this, h3⟩
def putR : List Tk → Tk → List Tk
  | [], t => [t]
  | y :: l, t => if y.1 < t.1 then y :: putR l t else t :: y :: l
theorem putR_perm : ∀ (l : List Tk) (t : Tk), (putR l t).Perm (t :: l)
  | [], t => List.Perm.refl _
  | y :: l, t => by
    unfold putR
    split
    · exact ((List.Perm.cons y (putR_perm l t))).trans (List.Perm.swap t y l)
    · exact List.Perm.refl _
theorem put_ev (ys : List Tk) (s e : Int) (hl : ys.length < 1000000000) : ∀ (m i : Nat), i + m = ys.length → spec_put.l0 (m + 1) (ys.map gQ) (i : Int) s e = some ((ys.take i ++ putR (ys.drop i) (s, e)).map gQ)
  | 0, i, h => by
    unfold spec_put.l0
    have h1 : i = ys.length := by omega
    subst h1
    simp only [Option.bind_some, List.length_map, List.length_nil, List.length_append, List.length_take, List.length_drop, Int.toNat_natCast, List.nil_append, List.length_singleton]
    rw [if_neg (by omega), if_pos (by omega), if_pos (by omega), if_pos (by omega), if_pos (by omega), if_pos (by omega)]
    rw [List.take_of_length_le (by rw [List.length_map]; exact Nat.le_refl _), List.drop_of_length_le (by rw [List.length_map]; exact Nat.le_refl _), List.take_length, List.drop_length]
    simp [putR, gQ]
  | m + 1, i, h => by
    have hi : i < ys.length := by omega
    unfold spec_put.l0
    rw [List.length_map, if_pos (by omega), if_pos (by omega), rdQ ys i hi, List.drop_eq_getElem_cons hi, putR]
    show (if (ys[i]'hi).1 < s then _ else _) = _
    by_cases c : (ys[i]'hi).1 < s
    · rw [if_pos c, if_pos c, Road.wrap_nat i (by omega), put_ev ys s e hl m (i + 1) (by omega), List.take_succ_eq_append_getElem hi, List.append_assoc]
      rfl
    · rw [if_neg c, if_neg c]
      simp only [Option.bind_some, List.length_map, List.length_nil, List.length_append, List.length_take, List.length_drop, Int.toNat_natCast, List.nil_append, List.length_singleton]
      rw [if_pos (by omega), if_pos (by omega), if_pos (by omega), if_pos (by omega)]
      have e2 : ys[i] :: List.drop (i + 1) ys = ys.drop i := (List.drop_eq_getElem_cons hi).symm
      rw [e2, List.map_append, List.map_cons, List.map_take, List.map_drop, List.append_assoc]
      rfl
theorem put_calls (ys : List Tk) (s e : Int) (A : Option Addr) (c : Nat) (w : World) (hC : Kd.C kT w A ys.length ys) (hc : ys.length ≤ c) (hl : ys.length < 1000000000) :
    Calls Tryd.prog 17 #[.slice A ys.length c, .agg #[.int .u64 s, .int .i64 e]] w fun en w' => ∃ v, en = .returned v ∧ Kd.R kT 39 w' w.heap.size (fun _ => True) v (putR ys (s, e)) ∧ Below w.heap.size w w' := by
  have := spec_put.calls (ys.length + 1) A c (ys.map gQ) s e _ w (by rw [List.length_map]; exact C_toQ hC) (by rw [List.length_map]; exact hc) (put_ev ys s e hl ys.length 0 (by omega))
  rw [List.length_map] at this
  refine this.mono ?_
  rintro en w' ⟨v, h1, h2, h3⟩
  have := R_fromQ h2
  rw [fgQ] at this
  exact ⟨v, h1, this, h3⟩
/-! the place told -/
theorem seatF_none : ∀ (l : List Tk) (s : Int) (i : Nat), (∀ z, (s, z) ∉ l) → seatF l s i = -1
  | [], _, _, _ => rfl
  | y :: l, s, i, h => by
    unfold seatF
    rw [if_neg (fun e => h y.2 (by rw [← e]; exact List.mem_cons_self))]
    exact seatF_none l s (i + 1) (fun z hz => h z (List.mem_cons_of_mem _ hz))
theorem seatF_some : ∀ (l : List Tk) (s e : Int) (i : Nat), (l.map (·.1)).Nodup → (s, e) ∈ l → ∃ k, seatF l s i = ((i + k : Nat) : Int) ∧ l[k]? = some (s, e) ∧ (l.eraseIdx k) = l.erase (s, e)
  | [], _, _, _, _, h => by simp at h
  | y :: l, s, e, i, hn, h => by
    rw [List.map_cons, List.nodup_cons] at hn
    unfold seatF
    rcases List.mem_cons.1 h with h | h
    · subst h
      exact ⟨0, by rw [if_pos rfl]; rfl, rfl, by rw [List.erase_cons_head]; rfl⟩
    · have hne : ¬ y.1 = s := fun q => hn.1 (List.mem_map.2 ⟨_, h, q.symm⟩)
      obtain ⟨k, h1, h2, h3⟩ := seatF_some l s e (i + 1) hn.2 h
      refine ⟨k + 1, by rw [if_neg hne, h1]; congr 1; omega, h2, ?_⟩
      rw [List.erase_cons_tail (by simp; intro q; exact hne (by rw [q])), List.eraseIdx_cons_succ, h3]
/-- What the place says, whatever the list. -/
theorem seatF_any : ∀ (l : List Tk) (s : Int) (i : Nat), (seatF l s i = -1 ∧ ∀ z, (s, z) ∉ l) ∨ ∃ k y, seatF l s i = ((i + k : Nat) : Int) ∧ l[k]? = some y ∧ y.1 = s
  | [], s, i => .inl ⟨rfl, fun z h => by simp at h⟩
  | y :: l, s, i => by
    unfold seatF
    by_cases c : y.1 = s
    · exact .inr ⟨0, y, by rw [if_pos c]; rfl, rfl, c⟩
    · rw [if_neg c]
      rcases seatF_any l s (i + 1) with ⟨h1, h2⟩ | ⟨k, z, h1, h2, h3⟩
      · refine .inl ⟨h1, fun z hz => ?_⟩
        rcases List.mem_cons.1 hz with hz | hz
        · exact c (by rw [← hz])
        · exact h2 z hz
      · exact .inr ⟨k + 1, z, by rw [h1]; congr 1; omega, h2, h3⟩
/-! ### spec.Wheel -/
def stayS (ts : Int) (odd : Bool) (l : List Tk) : List Tk := l.filter (fun y => decide (ts < y.2) || (odd && (y.1.tmod 2 == 1)))
def thereB (l : List Tk) (s e : Int) : Bool := decide (0 ≤ seatF l s 0) && ((l.getD (seatF l s 0).toNat (0, 0)).2 == e)
def specW (l : List Tk) (t : Trn) : List Tk × (Int × List Tk) :=
  if t.1 = 0 then (putR (if 0 ≤ seatF l t.2.1 0 then l.eraseIdx (seatF l t.2.1 0).toNat else l) (t.2.1, t.2.2.1), (0, []))
  else if t.1 = 1 then (if thereB l t.2.1 t.2.2.1 = true then (l.eraseIdx (seatF l t.2.1 0).toNat, (0, [])) else (l, (1, [])))
  else if t.1 = 2 then (if thereB l t.2.1 t.2.2.1 = true then (putR (l.eraseIdx (seatF l t.2.1 0).toNat) (t.2.1, t.2.2.2.1), (0, [])) else (l, (1, [])))
  else if t.1 = 3 then (stayS t.2.2.1 t.2.2.2.2 l, (0, dueL t.2.2.1 l))
  else (l, (0, []))
def specR : List Tk → List Trn → List Tk × List (Int × List Tk)
  | l, [] => (l, [])
  | l, t :: ts => ((specR (specW l t).1 ts).1, (specW l t).2 :: (specR (specW l t).1 ts).2)
theorem specR_append : ∀ (ts us : List Trn) (l : List Tk), specR l (ts ++ us) = ((specR (specR l ts).1 us).1, (specR l ts).2 ++ (specR (specR l ts).1 us).2)
  | [], us, l => rfl
  | t :: ts, us, l => by rw [List.cons_append, specR, specR_append ts us]; rfl
theorem specR_snoc (ts : List Trn) (t : Trn) (l : List Tk) : specR l (ts ++ [t]) = ((specW (specR l ts).1 t).1, (specR l ts).2 ++ [(specW (specR l ts).1 t).2]) := by
  rw [specR_append]
  rfl
theorem putR_len (l : List Tk) (t : Tk) : (putR l t).length = l.length + 1 := by rw [(putR_perm l t).length_eq, List.length_cons]
theorem specW_len (l : List Tk) (t : Trn) : (specW l t).1.length ≤ l.length + 1 := by
  have he : ∀ k : Nat, (l.eraseIdx k).length ≤ l.length := fun k => (List.eraseIdx_sublist l k).length_le
  unfold specW
  split
  · show (putR _ _).length ≤ _
    rw [putR_len]
    split
    · exact Nat.succ_le_succ (he _)
    · exact Nat.le_refl _
  · split
    · split
      · exact Nat.le_succ_of_le (he _)
      · exact Nat.le_succ _
    · split
      · split
        · show (putR _ _).length ≤ _
          rw [putR_len]
          exact Nat.succ_le_succ (he _)
        · exact Nat.le_succ _
      · split
        · exact Nat.le_succ_of_le (List.length_filter_le _ _)
        · exact Nat.le_succ _
theorem specR_len : ∀ (ts : List Trn) (l : List Tk), (specR l ts).1.length ≤ l.length + ts.length
  | [], l => Nat.le_refl _
  | t :: ts, l => by
    have h1 := specR_len ts (specW l t).1
    have h2 := specW_len l t
    rw [specR, List.length_cons]
    show (specR (specW l t).1 ts).1.length ≤ _
    omega
theorem specR_alen : ∀ (ts : List Trn) (l : List Tk), (specR l ts).2.length = ts.length
  | [], l => rfl
  | t :: ts, l => by rw [specR]; show ((specW l t).2 :: (specR (specW l t).1 ts).2).length = _; rw [List.length_cons, List.length_cons, specR_alen ts]
theorem tyT : ∀ q, q ∈ 39 :: kT.E → q ≠ 37 := by
  intro q hq
  have : q = 39 := by simpa [kT, Kd.pair, Kd.int, Kd.scalar] using hq
  rw [this]
  decide
def StepS (l : List Tk) (r : Int × List Tk) (base ab : Nat) (wr : World) (v4 : Value) (wx : World) : Prop :=
  Below wr.heap.size wr wx ∧ Kd.R kT 39 wx base (fun _ => True) v4 l ∧ ∃ sv, wx.heap[ab]? = some (.cells #[.int .i64 r.1, sv] 37 (0, 0)) ∧ Kd.R kT 39 wx base (fun _ => True) sv r.2
theorem RT_move {w w' : World} {base : Nat} {ok : Nat → Prop} {v : Value} {xs : List Tk} (h : Kd.R kT 39 w base ok v xs) (hm : ∀ k, v.ownBlock = some k → w'.heap[k]? = w.heap[k]?) : Kd.R kT 39 w' base ok v xs := by
  obtain ⟨h0, inner, ho, hr⟩ := h
  exact ⟨h0, inner, own_move ho hm, hr.imp_ (fun _ _ q => q)⟩
/-- Under way over the tasks at an expiry: what stays (a row of its own), what has expired (in the answer's block). -/
structure O3 (W3 : World) (ab : Nat) (v11 : Value) (st du : List Tk) (A : Option Addr) (c : Nat) (wx : World) : Prop where
  g : W3.grownBy wx (some ab)
  rs : Kd.R kT 39 wx W3.heap.size (fun k => W3.heap.size ≤ k) v11 st
  at_ : wx.heap[ab]? = some (.cells #[.int .i64 0, .slice A du.length c] 37 (0, 0))
  rd : Kd.R kT 39 wx W3.heap.size (fun k => W3.heap.size ≤ k) (.slice A du.length c) du
  ap_ : ∀ k, v11.ownBlock = some k → (Value.slice A du.length c).ownBlock ≠ some k
theorem O3.step {W3 wx wy : World} {ab : Nat} {v11 : Value} {st du : List Tk} {A : Option Addr} {c : Nat} (h : O3 W3 ab v11 st du A c wx) (hb : Below wx.heap.size wx wy) : O3 W3 ab v11 st du A c wy :=
  ⟨⟨hb.os.trans h.g.os, hb.tape.trans h.g.tape, hb.output.trans h.g.output, Nat.le_trans h.g.size hb.size, fun i hi hne => (hb.block i (Nat.lt_of_lt_of_le hi h.g.size)).trans (h.g.block i hi hne)⟩, Kd.R_below h.rs hb, (hb.block ab (Array.getElem?_eq_some_iff.1 h.at_).1).trans h.at_, Kd.R_below h.rd hb, h.ap_⟩
theorem O3.expired {W3 w6 w7 : World} {ab : Nat} {v11 : Value} {st du du' : List Tk} {A A7 : Option Addr} {c c7 : Nat} (h : O3 W3 ab v11 st du A c w6) (hab : ab < W3.heap.size) (ho : Kd.R kT 39 w7 W3.heap.size (fun k => W3.heap.size ≤ k) (.slice A7 du'.length c7) du')
    (hb : Below W3.heap.size w6 w7) (hg : w6.grownBy w7 (Value.slice A du.length c).ownBlock) (hat : (Value.slice A7 du'.length c7).ownBlock = (Value.slice A du.length c).ownBlock ∨ ∃ b, (Value.slice A7 du'.length c7).ownBlock = some b ∧ w6.heap.size ≤ b) :
    O3 W3 ab v11 st du' A7 c7 (w7.setCell ⟨ab, 1, none⟩ (.slice A7 du'.length c7)) := by
  have h7 : w7.heap[ab]? = some (.cells #[.int .i64 0, .slice A du.length c] 37 (0, 0)) := (hb.block ab hab).trans h.at_
  have hs := grown_setCell w7 ab 1 (.slice A7 du'.length c7)
  have far : ∀ k, W3.heap.size ≤ k → (w7.setCell ⟨ab, 1, none⟩ (.slice A7 du'.length c7)).heap[k]? = w7.heap[k]? := fun k hk => Road.setCell_other_heap w7 1 _ (by omega)
  refine ⟨⟨hs.os.trans (hb.os.trans h.g.os), hs.tape.trans (hb.tape.trans h.g.tape), hs.output.trans (hb.output.trans h.g.output), Nat.le_trans h.g.size (Nat.le_trans hb.size hs.size), fun i hi hne => ?_⟩, ?_, Road.setCell_same_heap 1 _ h7, Kd.R_step ho (fun k hk _ => far k hk), fun k hk e => ?_⟩
  · exact (hs.block i (Nat.lt_of_lt_of_le hi (Nat.le_trans h.g.size hb.size)) hne).trans ((hb.block i hi).trans (h.g.block i hi hne))
  · exact RT_move h.rs (fun k hk => (far k (Kd.R_base h.rs k hk)).trans (hg.block k (Kd.R_lt h.rs k hk) (fun e => h.ap_ k hk e.symm)))
  · rcases hat with q | ⟨b, q, hlt⟩
    · rw [q] at e
      exact h.ap_ k hk e
    · rw [q] at e
      injection e with e
      have := Kd.R_lt h.rs k hk
      omega
theorem O3.stayed {W3 w6 w7 : World} {ab : Nat} {v11 v' : Value} {st st' du : List Tk} {A : Option Addr} {c : Nat} (h : O3 W3 ab v11 st du A c w6) (hab : ab < W3.heap.size) (ho : Kd.R kT 39 w7 W3.heap.size (fun k => W3.heap.size ≤ k) v' st')
    (hb : Below W3.heap.size w6 w7) (hg : w6.grownBy w7 v11.ownBlock) (hat : v'.ownBlock = v11.ownBlock ∨ ∃ b, v'.ownBlock = some b ∧ w6.heap.size ≤ b) : O3 W3 ab v' st' du A c w7 := by
  refine ⟨⟨hb.os.trans h.g.os, hb.tape.trans h.g.tape, hb.output.trans h.g.output, Nat.le_trans h.g.size hb.size, fun i hi hne => (hb.block i hi).trans (h.g.block i hi hne)⟩, ho, (hb.block ab hab).trans h.at_, ?_, fun k hk e => ?_⟩
  · exact RT_move h.rd (fun k hk => hg.block k (Kd.R_lt h.rd k hk) (fun e => h.ap_ k e.symm hk))
  · rcases hat with q | ⟨b, q, hlt⟩
    · rw [q] at hk
      exact h.ap_ k hk e
    · rw [q] at hk
      injection hk with hk
      have := Kd.R_lt h.rd k e
      omega
theorem take_T (l : List Tk) (n : Nat) (h : n < l.length) : l.take (n + 1) = l.take n ++ [l.getD n dT] := by
  rw [List.take_succ_eq_append_getElem h]
  congr 2
  rw [List.getD_eq_getElem?_getD, List.getElem?_eq_getElem h]
  rfl
theorem stay_snoc (exx : Int) (odd : Bool) (l : List Tk) (n : Nat) (h : n < l.length) (b : Bool) (hb : (decide (exx < (l.getD n dT).2) || (odd && ((l.getD n dT).1.tmod 2 == 1))) = b) : stayS exx odd (l.take (n + 1)) = stayS exx odd (l.take n) ++ (if b = true then [l.getD n dT] else []) := by
  unfold stayS
  rw [take_T l n h, List.filter_append]
  congr 1
  cases b with
  | true => simp only [List.filter_cons, List.filter_nil, hb]
  | false => simp only [List.filter_cons, List.filter_nil, hb]
theorem due_snoc (exx : Int) (l : List Tk) (n : Nat) (h : n < l.length) (b : Bool) (hb : decide ((l.getD n dT).2 ≤ exx) = b) : dueL exx (l.take (n + 1)) = dueL exx (l.take n) ++ (if b = true then [l.getD n dT] else []) := by
  unfold dueL
  rw [take_T l n h, List.filter_append]
  congr 1
  cases b with
  | true => simp only [List.filter_cons, List.filter_nil, hb]
  | false => simp only [List.filter_cons, List.filter_nil, hb]
set_option maxHeartbeats 40000000 in
set_option maxRecDepth 100000 in
theorem spec_calls (ts : List Trn) (A : Option Addr) (c : Nat) (w : World) (hC : Kd.C kTr w A ts.length ts) (hc : ts.length ≤ c) (hN : ts.length < 1000000) :
    Calls Tryd.prog 8 #[.slice A ts.length c] w fun en w' => ∃ v u, en = .returned (.tuple #[v, u]) ∧ Kd.R kT 39 w' w.heap.size (fun _ => True) v (specR [] ts).1 ∧ Kd.R kA 37 w' w.heap.size (fun _ => True) u (specR [] ts).2 ∧ Below w.heap.size w w' := by
  have HA := Aside0.mk (And.intro hC (And.intro hc hN))
  clear hC hc hN
  go_enter Tryd.func8, Tryd.ntmps8
  go_wp2_with fail
  go_loopw [4, 5, 6] (fun v4 v5 v6 wr => ∃ (i : Nat), v6 = .int .i64 (i : Int) ∧ Aside0 (i ≤ ts.length) ∧ Aside0 (Kd.R kT 39 wr w.heap.size (fun _ => True) v4 (specR [] (ts.take i)).1 ∧ Kd.R kA 37 wr w.heap.size (fun _ => True) v5 (specR [] (ts.take i)).2 ∧ Below w.heap.size w wr)) (fun _ _ v6 _ => Road.leftOf ts.length v6)
  case atStart => exact ⟨0, rfl, ⟨Nat.zero_le _⟩, ⟨Kd.R_nil _ _ _ _ _, Kd.R_nil _ _ _ _ _, Below.refl _ _⟩⟩
  case round =>
    obtain ⟨i, rfl, HI, HS⟩ := hrel
    rcases Nat.lt_or_ge i ts.length with hi | hi
    · have i1 := eq_true (show (i : Int) < (ts.length : Int) by omega)
      have i2 := eq_true hi
      obtain ⟨ad, e0, d0, d1, d2, d3, d4⟩ := at_Tr (Kd.C_below HA.out.1 HS.out.2.2) i hi
      subst e0
      obtain ⟨⟨op, sq, exx, nw, odd⟩, ht⟩ : ∃ t, t = rdTr ts i := ⟨_, rfl⟩
      rw [← ht] at d0 d1 d2 d3 d4
      obtain ⟨l, hl⟩ : ∃ l, l = (specR [] (ts.take i)).1 := ⟨_, rfl⟩
      have hlen := specR_len (ts.take i) []
      rw [← hl, List.length_take, List.length_nil] at hlen
      have hR4 := HS.out.1
      rw [← hl] at hR4
      obtain ⟨A4, c4, hv4⟩ := Kd.R_slice hR4
      subst hv4
      have HL := Aside0.mk (And.intro hl (And.intro ht (And.intro hR4 (show l.length < 1000000 by have := HA.out.2.2; omega))))
      clear hi hl ht hlen hR4
      go_upto_region 7 with fail
      obtain ⟨W1, hW1⟩ : ∃ W1, W1 = wr.alloc (.cells #[.int .i64 op, .int .u64 sq, .int .i64 exx, .int .i64 nw, .bool odd] 34) := ⟨_, rfl⟩
      obtain ⟨tb, htb⟩ : ∃ tb, tb = wr.heap.size := ⟨_, rfl⟩
      rw [← hW1, ← htb]
      have hb1 : Below wr.heap.size wr W1 := by rw [hW1]; exact below_alloc (Below.refl _ _) _
      have htc : W1.heap[tb]? = some (.cells (cellsT op sq exx nw odd) 34 (0, 0)) := by
        rw [hW1, htb]
        exact heap_alloc_new wr _
      have z1 : W1.heap.size = wr.heap.size + 1 := by rw [hW1]; simp
      have hR1 := Kd.R_below HL.out.2.2.1 hb1
      have k1 : W1.cell? ⟨tb, 1, none⟩ = some (.int .u64 sq) := (cell_of_row W1 tb 1 _ _ _ htc).trans rfl
      obtain ⟨-, hc4, hC4⟩ := RT_reads hR1
      have HW1 := Aside0.mk (And.intro hb1 (And.intro htc (And.intro z1 (And.intro hR1 (And.intro hC4 hc4)))))
      have HTB := Aside0.mk htb
      clear hb1 htc z1 hR1 hC4 hc4 hW1 htb d0 d1 d2 d3 d4
      go_wp2_with fail
      refine (seat_calls l sq A4 c4 W1 HW1.out.2.2.2.2.1 HW1.out.2.2.2.2.2 (by have := HL.out.2.2.2; omega)).mono ?_
      rintro en w2 ⟨rfl, n2, rfl⟩
      obtain ⟨k, hk⟩ : ∃ k, k = seatF l sq 0 := ⟨_, rfl⟩
      rw [← hk]
      have HK := Aside0.mk hk
      clear hk k1
      go_upto_region 8 with fail
      obtain ⟨th, hth⟩ : ∃ th, th = thereB l sq exx := ⟨_, rfl⟩
      have HTH := Aside0.mk hth
      clear hth
      go_cut [9, 134, 135] from 13 (fun v9 v134 v135 wx => v9 = .bool th ∧ v134 = undef ∧ v135 = undef ∧ Aside0 (Below W1.heap.size W1 wx))
      case first =>
        rcases seatF_any l sq 0 with ⟨hs1, hs2⟩ | ⟨kn, y, hs1, hs2, hs3⟩
        · have hk : k = -1 := HK.out.trans hs1
          subst hk
          have hthf : th = false := by
            rw [HTH.out]
            unfold thereB
            rw [hs1]
            rfl
          subst hthf
          clear hs1 hs2
          go_wp2_with fail
          go_quiet (fail)
          go_wp2_with fail
          go_meet
          exact ⟨rfl, rfl, rfl, ⟨pw_below_drewN (pw_below_drewN (Below.refl _ _) _) _⟩⟩
        · have hk : k = (kn : Int) := by rw [HK.out, hs1, Nat.zero_add]
          subst hk
          have hkl : kn < l.length := (List.getElem?_eq_some_iff.1 hs2).1
          have q1 := eq_true (show 0 ≤ (kn : Int) by omega)
          have q2 : decide (0 ≤ (kn : Int)) = true := decide_eq_true (show 0 ≤ (kn : Int) by omega)
          have q3 := eq_true (show (kn : Int) < (l.length : Int) by omega)
          have q4 := eq_true hkl
          obtain ⟨a4, e4, -, ka2⟩ := CT_at HW1.out.2.2.2.2.1 kn hkl
          subst e4
          obtain ⟨z, hz⟩ : ∃ z, z = (l.getD kn dT).2 := ⟨_, rfl⟩
          rw [← hz] at ka2
          have kt : W1.cell? ⟨tb, 2, none⟩ = some (.int .i64 exx) := (cell_of_row W1 tb 2 _ _ _ HW1.out.2.1).trans rfl
          have hthe : th = (z == exx) := by
            rw [HTH.out, hz]
            unfold thereB
            rw [← HK.out, Int.toNat_natCast, q2, Bool.true_and]
            rfl
          clear hs1 hs2 hs3 hkl hz
          by_cases hze : z = exx
          · subst hze
            have htt : th = true := by rw [hthe]; simp
            subst htt
            clear hthe
            go_wp2_with fail
            go_quiet (fail)
            go_wp2_with fail
            go_meet
            exact ⟨rfl, rfl, rfl, ⟨pw_below_drewN (pw_below_drewN (Below.refl _ _) _) _⟩⟩
          · have q5 := eq_false hze
            have q6 : (z == exx) = false := by simp [hze]
            have q7 : decide (z = exx) = false := decide_eq_false hze
            have htt : th = false := by rw [hthe, q6]
            subst htt
            clear hthe hze
            go_wp2_with fail
            go_quiet (fail)
            go_wp2_with fail
            go_meet
            exact ⟨rfl, rfl, rfl, ⟨pw_below_drewN (pw_below_drewN (Below.refl _ _) _) _⟩⟩
      case rest =>
        obtain ⟨rfl, rfl, rfl, HB3⟩ := hcut
        go_upto_region 10 with fail
        obtain ⟨W3, hW3⟩ : ∃ W3, W3 = wc.alloc (.cells #[.int .i64 0, .slice none 0 0] 37) := ⟨_, rfl⟩
        obtain ⟨ab, hab⟩ : ∃ ab, ab = wc.heap.size := ⟨_, rfl⟩
        rw [← hW3, ← hab]
        have hb13 : Below W1.heap.size W1 W3 := by rw [hW3]; exact below_alloc HB3.out _
        have hb3 : Below wr.heap.size wr W3 := below_step HW1.out.1 hb13
        have hans : W3.heap[ab]? = some (.cells #[.int .i64 0, .slice none 0 0] 37 (0, 0)) := by
          rw [hW3, hab]
          exact heap_alloc_new wc _
        have z3 : W3.heap.size = ab + 1 := by rw [hW3, hab]; simp
        have hab1 : W1.heap.size ≤ ab := by rw [hab]; exact HB3.out.size
        have htc3 : W3.heap[tb]? = some (.cells (cellsT op sq exx nw odd) 34 (0, 0)) := (hb13.block tb (by have := HW1.out.2.2.1; have := HTB.out; omega)).trans HW1.out.2.1
        have k0 : W3.cell? ⟨tb, 0, none⟩ = some (.int .i64 op) := (cell_of_row W3 tb 0 _ _ _ htc3).trans rfl
        have k1 : W3.cell? ⟨tb, 1, none⟩ = some (.int .u64 sq) := (cell_of_row W3 tb 1 _ _ _ htc3).trans rfl
        have k2 : W3.cell? ⟨tb, 2, none⟩ = some (.int .i64 exx) := (cell_of_row W3 tb 2 _ _ _ htc3).trans rfl
        have k3 : W3.cell? ⟨tb, 3, none⟩ = some (.int .i64 nw) := (cell_of_row W3 tb 3 _ _ _ htc3).trans rfl
        have k4 : W3.cell? ⟨tb, 4, none⟩ = some (.bool odd) := (cell_of_row W3 tb 4 _ _ _ htc3).trans rfl
        have hR3 := Kd.R_below HW1.out.2.2.2.1 hb13
        have hbase : w.heap.size ≤ W3.heap.size := Nat.le_trans HS.out.2.2.size hb3.size
        have H3 := Aside0.mk (And.intro hb3 (And.intro hans (And.intro z3 (And.intro (show wr.heap.size ≤ ab by have := HW1.out.1.size; omega) (And.intro htc3 (And.intro hR3 (And.intro (RT_reads hR3).2 hbase)))))))
        clear hb13 hb3 hans z3 hab1 htc3 hR3 hbase hW3 hab HB3 HW1
        go_upto_block 2 with fail
        go_cut [4, 134, 135] from 11 (fun v4 v134 v135 wx => v134 = undef ∧ v135 = undef ∧ Aside0 (StepS (specW l (op, sq, exx, nw, odd)).1 (specW l (op, sq, exx, nw, odd)).2 w.heap.size ab wr v4 wx))
        case first =>
          have hka := seatF_any l sq 0
          rw [← HK.out] at hka
          by_cases o0 : op = 0
          · subst o0
            have e : specW l (0, sq, exx, nw, odd) = (putR (if 0 ≤ seatF l sq 0 then l.eraseIdx (seatF l sq 0).toNat else l) (sq, exx), (0, [])) := if_pos rfl
            rw [← HK.out] at e
            rcases hka with ⟨rfl, -⟩ | ⟨kn, y, hk1, hk2, -⟩
            · have HEQ := Aside0.mk (show specW l (0, sq, exx, nw, odd) = (putR l (sq, exx), (0, [])) from e)
              clear e
              go_wp2_with fail
              refine (put_calls l sq exx A4 c4 W3 H3.out.2.2.2.2.2.2.1.2 H3.out.2.2.2.2.2.2.1.1 (by have := HL.out.2.2.2; omega)).mono ?_
              rintro en w4 ⟨v4, rfl, hR4, hb4⟩
              have H4 := Aside0.mk (And.intro hR4 hb4)
              clear hR4 hb4
              go_wp2_with fail
              go_meet
              obtain ⟨hR4, hb4⟩ := H4.out
              obtain ⟨hb3, hans, z3, hab1, htc3, hR3, -, hbase⟩ := H3.out
              refine ⟨rfl, rfl, ⟨?_⟩⟩
              rw [HEQ.out]
              exact ⟨hb3.trans (hb4.mono hb3.size), Kd.R_lower hR4 hbase, _, (hb4.block ab (by omega)).trans hans, Kd.R_nil _ _ _ _ _⟩
            · have hk : k = (kn : Int) := by rw [hk1, Nat.zero_add]
              subst hk
              have hkl : kn < l.length := (List.getElem?_eq_some_iff.1 hk2).1
              have q1 := eq_true (show 0 ≤ (kn : Int) by omega)
              have q2 : decide (0 ≤ (kn : Int)) = true := decide_eq_true (show 0 ≤ (kn : Int) by omega)
              have HKL := Aside0.mk hkl
              rw [if_pos (show 0 ≤ (kn : Int) by omega), Int.toNat_natCast] at e
              have HEQ := Aside0.mk e
              clear hk1 hk2 hkl e
              go_wp2_with fail
              refine (without_calls l kn A4 c4 W3 H3.out.2.2.2.2.2.2.1.2 H3.out.2.2.2.2.2.2.1.1 (by have := HL.out.2.2.2; omega) HKL.out).mono ?_
              rintro en w4 ⟨v4, rfl, hR4, hb4⟩
              obtain ⟨A5, c5, hv5⟩ := Kd.R_slice hR4
              subst hv5
              have H4 := Aside0.mk (And.intro hb4 (And.intro (show (l.eraseIdx kn).length < 1000000000 by have := (List.eraseIdx_sublist l kn).length_le; have := HL.out.2.2.2; omega) (RT_reads hR4).2))
              have kk1 : w4.cell? ⟨tb, 1, none⟩ = some (.int .u64 sq) := cellB hb4 k1
              have kk2 : w4.cell? ⟨tb, 2, none⟩ = some (.int .i64 exx) := cellB hb4 k2
              have kk3 : w4.cell? ⟨tb, 3, none⟩ = some (.int .i64 nw) := cellB hb4 k3
              clear hR4 hb4
              go_wp2_with fail
              refine (put_calls (l.eraseIdx kn) sq exx A5 c5 w4 H4.out.2.2.2 H4.out.2.2.1 H4.out.2.1).mono ?_
              rintro en w5 ⟨v5, rfl, hR5, hb5⟩
              have H5 := Aside0.mk (And.intro hR5 hb5)
              clear hR5 hb5
              go_wp2_with fail
              go_meet
              obtain ⟨hR5, hb5⟩ := H5.out
              obtain ⟨hb3, hans, z3, hab1, htc3, hR3, -, hbase⟩ := H3.out
              have hb4 := H4.out.1
              have hb35 : Below W3.heap.size W3 w5 := hb4.trans (hb5.mono hb4.size)
              refine ⟨rfl, rfl, ⟨?_⟩⟩
              rw [HEQ.out]
              exact ⟨hb3.trans (hb35.mono hb3.size), Kd.R_lower hR5 (Nat.le_trans hbase hb4.size), _, (hb35.block ab (by omega)).trans hans, Kd.R_nil _ _ _ _ _⟩
          · by_cases o1 : op = 1
            · subst o1
              have e : specW l (1, sq, exx, nw, odd) = if thereB l sq exx = true then (l.eraseIdx (seatF l sq 0).toNat, (0, [])) else (l, (1, [])) := (if_neg (show ¬ (1 : Int) = 0 by decide)).trans (if_pos rfl)
              cases th with
              | true =>
                have hth0 := HTH.out
                unfold thereB at hth0
                rw [← HK.out] at hth0
                obtain ⟨kn, y, hk1, hk2, -⟩ : ∃ kn y, k = ((0 + kn : Nat) : Int) ∧ l[kn]? = some y ∧ y.1 = sq := by
                  rcases hka with ⟨rfl, -⟩ | hk
                  · exact absurd hth0 (by simp)
                  · exact hk
                have hk : k = (kn : Int) := by rw [hk1, Nat.zero_add]
                subst hk
                have hkl : kn < l.length := (List.getElem?_eq_some_iff.1 hk2).1
                have HKL := Aside0.mk hkl
                rw [if_pos HTH.out.symm, ← HK.out, Int.toNat_natCast] at e
                have HEQ := Aside0.mk e
                clear hk1 hk2 hkl e hth0
                go_wp2_with fail
                refine (without_calls l kn A4 c4 W3 H3.out.2.2.2.2.2.2.1.2 H3.out.2.2.2.2.2.2.1.1 (by have := HL.out.2.2.2; omega) HKL.out).mono ?_
                rintro en w4 ⟨v4, rfl, hR4, hb4⟩
                have H4 := Aside0.mk (And.intro hR4 hb4)
                clear hR4 hb4
                go_wp2_with fail
                go_meet
                obtain ⟨hR4, hb4⟩ := H4.out
                obtain ⟨hb3, hans, z3, hab1, htc3, hR3, -, hbase⟩ := H3.out
                refine ⟨rfl, rfl, ⟨?_⟩⟩
                rw [HEQ.out]
                exact ⟨hb3.trans (hb4.mono hb3.size), Kd.R_lower hR4 hbase, _, (hb4.block ab (by omega)).trans hans, Kd.R_nil _ _ _ _ _⟩
              | false =>
                rw [if_neg (by rw [← HTH.out]; simp)] at e
                have HEQ := Aside0.mk e
                clear e hka
                have ka : W3.cell? ⟨ab, 0, none⟩ = some (.int .i64 0) := (cell_of_row W3 ab 0 _ _ _ H3.out.2.1).trans rfl
                have fa : W3.frozen? ⟨ab, 0, none⟩ = false := Road.frozen_of_heap H3.out.2.1
                go_wp2_with fail
                go_meet
                obtain ⟨hb3, hans, z3, hab1, htc3, hR3, -, hbase⟩ := H3.out
                refine ⟨rfl, rfl, ⟨?_⟩⟩
                rw [HEQ.out]
                exact ⟨hb3.grown (grown_setCell W3 ab 0 (.int .i64 1)) hb3.size (fun q hq => by injection hq with hq; omega), Kd.R_set hR3 hans tyT 0 _, _, Road.setCell_same_heap 0 _ hans, Kd.R_nil _ _ _ _ _⟩
            · by_cases o2 : op = 2
              · subst o2
                have e : specW l (2, sq, exx, nw, odd) = if thereB l sq exx = true then (putR (l.eraseIdx (seatF l sq 0).toNat) (sq, nw), (0, [])) else (l, (1, [])) := (if_neg (show ¬ (2 : Int) = 0 by decide)).trans ((if_neg (show ¬ (2 : Int) = 1 by decide)).trans (if_pos rfl))
                cases th with
                | true =>
                  have hth0 := HTH.out
                  unfold thereB at hth0
                  rw [← HK.out] at hth0
                  obtain ⟨kn, y, hk1, hk2, -⟩ : ∃ kn y, k = ((0 + kn : Nat) : Int) ∧ l[kn]? = some y ∧ y.1 = sq := by
                    rcases hka with ⟨rfl, -⟩ | hk
                    · exact absurd hth0 (by simp)
                    · exact hk
                  have hk : k = (kn : Int) := by rw [hk1, Nat.zero_add]
                  subst hk
                  have hkl : kn < l.length := (List.getElem?_eq_some_iff.1 hk2).1
                  have HKL := Aside0.mk hkl
                  rw [if_pos HTH.out.symm, ← HK.out, Int.toNat_natCast] at e
                  have HEQ := Aside0.mk e
                  clear hk1 hk2 hkl e hth0
                  go_upto_region 21 with fail
                  refine start_ (n := 10) (S := fun w' => w'.cell? ⟨tb, 1, none⟩ = some (.int .u64 sq) ∧ w'.cell? ⟨tb, 3, none⟩ = some (.int .i64 nw)) (ds := []) #[false, false, false, false, false, false, false, false, false, false] (by kernel_rfl) rfl rfl ⟨k1, k3⟩ (fun hHeld => ?_)
                  refine pure_ (i := 0) (N := some 66) (v := ?_) (a' := ?_) #[true, false, false, false, false, false, false, false, false, false] rfl rfl (by kernel_rfl) (fun _ _ _ h => h) (Or.inl ⟨by rfl, ?_⟩) ?_ ?_
                  rotate_left
                  · intro w'
                    go_simp
                    with_reducible rfl
                  rotate_left
                  · simp only [Act.put, List.setIfInBounds_toArray, List.set_cons_zero, List.set_cons_succ, i64_w, i32_w]
                    rfl
                  refine pure_ (i := 1) (N := some 67) (v := ?_) (a' := ?_) #[true, true, false, false, false, false, false, false, false, false] rfl rfl (by kernel_rfl) (fun _ _ _ h => h) (Or.inl ⟨by rfl, ?_⟩) ?_ ?_
                  rotate_left
                  · intro w'
                    go_simp
                    with_reducible rfl
                  rotate_left
                  · simp only [Act.put, List.setIfInBounds_toArray, List.set_cons_zero, List.set_cons_succ, i64_w, i32_w]
                    rfl
                  refine pure_ (i := 3) (N := some 69) (v := ?_) (a' := ?_) #[true, true, false, true, false, false, false, false, false, false] rfl rfl (by kernel_rfl) (fun _ _ _ h => h) (Or.inl ⟨by rfl, ?_⟩) ?_ ?_
                  rotate_left
                  · intro w'
                    go_simp
                    with_reducible rfl
                  rotate_left
                  · simp only [Act.put, List.setIfInBounds_toArray, List.set_cons_zero, List.set_cons_succ, i64_w, i32_w]
                    rfl
                  refine take_ (i := 4) (N := some 70) (v := ?_) (a' := ?_) #[true, true, false, true, true, false, false, false, false, false] rfl rfl (by kernel_rfl) (fun _ _ _ h => h) (Or.inl ⟨by rfl, ?_⟩) hHeld ?_ ?_
                  rotate_left
                  · intro w' hS'
                    obtain ⟨l1, l2⟩ := hS'
                    go_simp
                    with_reducible rfl
                  rotate_left
                  · simp only [Act.put, List.setIfInBounds_toArray, List.set_cons_zero, List.set_cons_succ, i64_w, i32_w]
                    rfl
                  refine pure_ (i := 5) (N := some 71) (v := ?_) (a' := ?_) #[true, true, false, true, true, true, false, false, false, false] rfl rfl (by kernel_rfl) (fun _ _ _ h => h) (Or.inl ⟨by rfl, ?_⟩) ?_ ?_
                  rotate_left
                  · intro w'
                    go_simp
                    with_reducible rfl
                  rotate_left
                  · simp only [Act.put, List.setIfInBounds_toArray, List.set_cons_zero, List.set_cons_succ, i64_w, i32_w]
                    rfl
                  refine take_ (i := 6) (N := some 72) (v := ?_) (a' := ?_) #[true, true, false, true, true, true, true, false, false, false] rfl rfl (by kernel_rfl) (fun _ _ _ h => h) (Or.inl ⟨by rfl, ?_⟩) hHeld ?_ ?_
                  rotate_left
                  · intro w' hS'
                    obtain ⟨l1, l2⟩ := hS'
                    go_simp
                    with_reducible rfl
                  rotate_left
                  · simp only [Act.put, List.setIfInBounds_toArray, List.set_cons_zero, List.set_cons_succ, i64_w, i32_w]
                    rfl
                  refine pure_ (i := 7) (N := some 73) (v := ?_) (a' := ?_) #[true, true, false, true, true, true, true, true, false, false] rfl rfl (by kernel_rfl) (fun _ _ _ h => h) (Or.inl ⟨by rfl, ?_⟩) ?_ ?_
                  rotate_left
                  · intro w'
                    go_simp
                    with_reducible rfl
                  rotate_left
                  · simp only [Act.put, List.setIfInBounds_toArray, List.set_cons_zero, List.set_cons_succ, i64_w, i32_w]
                    rfl
                  refine one_ (i := 2) (N := some 68) #[true, true, true, true, true, true, true, true, false, false] rfl rfl (by kernel_rfl) (by decide) (fun K hK => ?_)
                  refine goes_ Tryd.func16 (by kernel_rfl) rfl #[.slice A4 l.length c4, .int .i64 (kn : Int)] (by rfl) rfl rfl (by simp only [List.map_toArray, List.map_cons, List.map_nil]; rfl) ?_
                  refine (without_calls l kn A4 c4 W3.drew (Kd.C_drew H3.out.2.2.2.2.2.2.1.2) H3.out.2.2.2.2.2.2.1.1 (by have := HL.out.2.2.2; omega) HKL.out).mono ?_
                  rintro e w4 ⟨v4, rfl, hR4, hb4'⟩
                  refine ⟨_, rfl, ?_⟩
                  have hb4 : Below W3.heap.size W3 w4 := below_step (below_drew1 (Below.refl W3.heap.size W3)) hb4'
                  clear hb4'
                  obtain ⟨A5, c5, hv5⟩ := Kd.R_slice hR4
                  subst hv5
                  have H4 := Aside0.mk (And.intro hb4 (And.intro (show (l.eraseIdx kn).length < 1000000000 by have := (List.eraseIdx_sublist l kn).length_le; have := HL.out.2.2.2; omega) (RT_reads hR4).2))
                  have kk1 : w4.cell? ⟨tb, 1, none⟩ = some (.int .u64 sq) := cellB hb4 k1
                  have kk2 : w4.cell? ⟨tb, 2, none⟩ = some (.int .i64 exx) := cellB hb4 k2
                  have kk3 : w4.cell? ⟨tb, 3, none⟩ = some (.int .i64 nw) := cellB hb4 k3
                  clear hR4 hb4
                  refine hK.out _ _ ⟨kk1, kk3⟩ (fun hHeld => ?_)
                  clear hK K
                  refine norm_ (a' := ?_) ?_ ?_
                  rotate_left
                  · show Act.put _ (some 68) _ = _
                    simp only [Act.put, List.setIfInBounds_toArray, List.set_cons_zero, List.set_cons_succ, i64_w, i32_w]
                    rfl
                  refine one_ (i := 8) (N := some 74) #[true, true, true, true, true, true, true, true, true, false] rfl rfl (by kernel_rfl) (by decide) (fun K hK => ?_)
                  refine goes_ Tryd.func17 (by kernel_rfl) rfl #[.slice A5 (l.eraseIdx kn).length c5, .agg #[.int .u64 sq, .int .i64 nw]] (by rfl) rfl rfl (by simp only [List.map_toArray, List.map_cons, List.map_nil]; rfl) ?_
                  refine (put_calls (l.eraseIdx kn) sq nw A5 c5 w4 H4.out.2.2.2 H4.out.2.2.1 H4.out.2.1).mono ?_
                  rintro e w5 ⟨v5, rfl, hR5, hb5⟩
                  refine ⟨_, rfl, ?_⟩
                  have H5 := Aside0.mk (And.intro hR5 hb5)
                  refine hK.out _ _ ⟨cellB hb5 kk1, cellB hb5 kk3⟩ (fun hHeld => ?_)
                  clear hK K
                  refine norm_ (a' := ?_) ?_ ?_
                  rotate_left
                  · show Act.put _ (some 74) _ = _
                    simp only [Act.put, List.setIfInBounds_toArray, List.set_cons_zero, List.set_cons_succ, i64_w, i32_w]
                    rfl
                  clear hR5 hb5
                  refine pure_ (i := 9) (N := some 4) (v := ?_) (a' := ?_) #[true, true, true, true, true, true, true, true, true, true] rfl rfl (by kernel_rfl) (fun _ _ _ h => h) (Or.inl ⟨by rfl, ?_⟩) ?_ ?_
                  rotate_left
                  · intro w'
                    go_simp
                    with_reducible rfl
                  rotate_left
                  · simp only [Act.put, List.setIfInBounds_toArray, List.set_cons_zero, List.set_cons_succ, i64_w, i32_w]
                    rfl
                  refine done_ (by kernel_rfl) ?_
                  go_wp2_with fail
                  go_meet
                  obtain ⟨hR5, hb5⟩ := H5.out
                  obtain ⟨hb3, hans, z3, hab1, htc3, hR3, -, hbase⟩ := H3.out
                  have hb4 := H4.out.1
                  have hb35 : Below W3.heap.size W3 w5 := hb4.trans (hb5.mono hb4.size)
                  refine ⟨rfl, rfl, ⟨?_⟩⟩
                  rw [HEQ.out]
                  exact ⟨hb3.trans (hb35.mono hb3.size), Kd.R_lower hR5 (Nat.le_trans hbase hb4.size), _, (hb35.block ab (by omega)).trans hans, Kd.R_nil _ _ _ _ _⟩
                | false =>
                  rw [if_neg (by rw [← HTH.out]; simp)] at e
                  have HEQ := Aside0.mk e
                  clear e hka
                  have ka : W3.cell? ⟨ab, 0, none⟩ = some (.int .i64 0) := (cell_of_row W3 ab 0 _ _ _ H3.out.2.1).trans rfl
                  have fa : W3.frozen? ⟨ab, 0, none⟩ = false := Road.frozen_of_heap H3.out.2.1
                  go_wp2_with fail
                  go_meet
                  obtain ⟨hb3, hans, z3, hab1, htc3, hR3, -, hbase⟩ := H3.out
                  refine ⟨rfl, rfl, ⟨?_⟩⟩
                  rw [HEQ.out]
                  exact ⟨hb3.grown (grown_setCell W3 ab 0 (.int .i64 1)) hb3.size (fun q hq => by injection hq with hq; omega), Kd.R_set hR3 hans tyT 0 _, _, Road.setCell_same_heap 0 _ hans, Kd.R_nil _ _ _ _ _⟩
              · by_cases o3 : op = 3
                · subst o3
                  have e : specW l (3, sq, exx, nw, odd) = (stayS exx odd l, (0, dueL exx l)) := (if_neg (show ¬ (3 : Int) = 0 by decide)).trans ((if_neg (show ¬ (3 : Int) = 1 by decide)).trans ((if_neg (show ¬ (3 : Int) = 2 by decide)).trans (if_pos rfl)))
                  have HEQ := Aside0.mk e
                  clear e hka o0 o1 o2
                  have HKK := Aside0.mk (And.intro k2 k4)
                  go_wp2_with fail
                  go_loopw [11, 12] (fun v11 v12 wx => ∃ (n : Nat) (A7 : Option Addr) (c7 : Nat), v12 = .int .i64 (n : Int) ∧ Aside0 (n ≤ l.length) ∧ Aside0 (O3 W3 ab v11 (stayS exx odd (l.take n)) (dueL exx (l.take n)) A7 c7 wx)) (fun _ v12 _ => Road.leftOf l.length v12)
                  case atStart => exact ⟨0, none, 0, rfl, ⟨Nat.zero_le _⟩, ⟨⟨rfl, rfl, rfl, Nat.le_refl _, fun _ _ _ => rfl⟩, Kd.R_nil _ _ _ _ _, H3.out.2.1, Kd.R_nil _ _ _ _ _, fun k hk => by simp [Value.ownBlock] at hk⟩⟩
                  case round =>
                    obtain ⟨n, A7, c7, rfl, HN, HO⟩ := hrel
                    rcases Nat.lt_or_ge n l.length with hn | hn
                    · have j1 := eq_true (show (n : Int) < (l.length : Int) by omega)
                      have j2 := eq_true hn
                      obtain ⟨hb3, hans, z3, hab1, htc3, hR3, -, hbase⟩ := H3.out
                      obtain ⟨g4, rfl⟩ : ∃ g4, A4 = some ⟨g4, 0, none⟩ := by
                        obtain ⟨g4, cap, e, _⟩ := Kd.R_form hR3 (by omega)
                        injection e with e
                        exact ⟨g4, e⟩
                      have hg4 : g4 < W3.heap.size := Kd.R_lt hR3 g4 rfl
                      have hga : g4 ≠ ab := by
                        obtain ⟨inner, hown⟩ := Kd.R_own hR3
                        obtain ⟨cells, hc'⟩ := own_typed hown g4 rfl
                        exact ne_obj hc' hans (cells_ne (by decide))
                      have hta : tb ≠ ab := ne_obj htc3 hans (cells_ne (by decide))
                      have htl : tb < W3.heap.size := (Array.getElem?_eq_some_iff.1 htc3).1
                      obtain ⟨m2, m3, -, -⟩ := RT_at hR3 n hn
                      obtain ⟨x, hx⟩ : ∃ x, x = (l.getD n dT).1 := ⟨_, rfl⟩
                      obtain ⟨y, hy⟩ : ∃ y, y = (l.getD n dT).2 := ⟨_, rfl⟩
                      rw [← hx] at m2
                      rw [← hy] at m3
                      have hc4 : ∀ {wy : World}, W3.grownBy wy (some ab) → wy.cell? ⟨g4, n * 2, none⟩ = some (.int .u64 x) ∧ wy.cell? ⟨g4, n * 2 + 1, none⟩ = some (.int .i64 y) ∧ wy.cell? ⟨tb, 2, none⟩ = some (.int .i64 exx) ∧ wy.cell? ⟨tb, 4, none⟩ = some (.bool odd) := fun {wy} hg =>
                        ⟨(cell_same (hg.block g4 hg4 (fun e => hga (by injection e))) _).trans m2, (cell_same (hg.block g4 hg4 (fun e => hga (by injection e))) _).trans m3, (cell_same (hg.block tb htl (fun e => hta (by injection e))) _).trans HKK.out.1, (cell_same (hg.block tb htl (fun e => hta (by injection e))) _).trans HKK.out.2⟩
                      obtain ⟨p2, p3, pt2, pt4⟩ := hc4 HO.out.g
                      have HC4 := Aside0.mk @hc4
                      have H3x := Aside0.mk (show ab < W3.heap.size ∧ g4 < W3.heap.size from ⟨by omega, hg4⟩)
                      have HWN := Aside0.mk (Road.wrap_nat n (by have := HL.out.2.2.2; omega))
                      have HXY := Aside0.mk (And.intro hx (And.intro hy hn))
                      obtain ⟨st, hst⟩ : ∃ s, s = stayS exx odd (l.take n) := ⟨_, rfl⟩
                      obtain ⟨du, hdu⟩ : ∃ s, s = dueL exx (l.take n) := ⟨_, rfl⟩
                      have hl1 : st.length ≤ n := by rw [hst]; exact Nat.le_trans (List.length_filter_le _ _) (by rw [List.length_take]; omega)
                      have hl2 : du.length ≤ n := by rw [hdu]; exact Nat.le_trans (List.length_filter_le _ _) (by rw [List.length_take]; omega)
                      have HLN := Aside0.mk (show (du.length + 1) * 16 ≤ 140737488355328 by have := HL.out.2.2.2; omega)
                      have HLS := Aside0.mk (show (st.length + 1) * 16 ≤ 140737488355328 by have := HL.out.2.2.2; omega)
                      have HOs := HO.out
                      rw [← hst, ← hdu] at HOs
                      have HO2 := Aside0.mk HOs
                      have HSD := Aside0.mk (And.intro hst hdu)
                      obtain ⟨du2, hdu2⟩ : ∃ s, s = du ++ [(x, y)] := ⟨_, rfl⟩
                      have HDU2 := Aside0.mk hdu2
                      clear hdu2
                      have m1 : wr.cell? ⟨ab, 1, none⟩ = some (.slice A7 du.length c7) := (cell_of_row wr ab 1 _ _ _ HOs.at_).trans rfl
                      clear hb3 hans z3 hab1 htc3 hR3 hbase hg4 hga hta htl m2 m3 hx hy hc4 hn hst hdu hl1 hl2 HOs HO
                      obtain ⟨m, hm⟩ : ∃ m, x.tmod 2 = m := ⟨_, rfl⟩
                      have HM := Aside0.mk hm
                      by_cases c : y ≤ exx
                      · have q1 := eq_true c
                        have q2 : decide (y ≤ exx) = true := decide_eq_true c
                        have q3 := eq_false (show ¬ exx < y by omega)
                        have q4 : decide (exx < y) = false := decide_eq_false (show ¬ exx < y by omega)
                        have HCC := Aside0.mk c
                        clear c
                        go_wp2_with fail
                        go_quiet (fail)
                        go_upto_region 29 with fail
                        have HO5 := Aside0.mk (HO2.out.step (wy := (wr.drewN nq).drew) (below_drew1 (pw_below_drewN (Below.refl _ _) nq)))
                        refine start_ (n := 10) (S := fun w' => w'.cell? ⟨ab, 1, none⟩ = some (.slice A7 du.length c7) ∧ w'.cell? ⟨g4, n * 2, none⟩ = some (.int .u64 x) ∧ w'.cell? ⟨g4, n * 2 + 1, none⟩ = some (.int .i64 y)) (ds := [9]) #[false, false, false, false, false, false, false, false, false, false] (by kernel_rfl) rfl rfl ⟨m1, p2, p3⟩ (fun hHeld => ?_)
                        generalize (wr.drewN nq).drew = W0 at hHeld HO5 ⊢
                        refine pure_ (i := 0) (N := some 92) (v := ?_) (a' := ?_) #[true, false, false, false, false, false, false, false, false, false] rfl rfl (by kernel_rfl) (fun _ _ _ h => h) (Or.inl ⟨by rfl, ?_⟩) ?_ ?_
                        rotate_left
                        · intro w'
                          go_simp
                          with_reducible rfl
                        rotate_left
                        · simp only [Act.put, List.setIfInBounds_toArray, List.set_cons_zero, List.set_cons_succ, i64_w, i32_w]
                          rfl
                        refine take_ (i := 1) (N := some 93) (v := ?_) (a' := ?_) #[true, true, false, false, false, false, false, false, false, false] rfl rfl (by kernel_rfl) (fun _ _ _ h => h) (Or.inl ⟨by rfl, ?_⟩) hHeld ?_ ?_
                        rotate_left
                        · intro w' hS'
                          obtain ⟨l1, l2, l3⟩ := hS'
                          go_simp
                          with_reducible rfl
                        rotate_left
                        · simp only [Act.put, List.setIfInBounds_toArray, List.set_cons_zero, List.set_cons_succ, i64_w, i32_w]
                          rfl
                        refine pure_ (i := 2) (N := some 94) (v := ?_) (a' := ?_) #[true, true, true, false, false, false, false, false, false, false] rfl rfl (by kernel_rfl) (fun _ _ _ h => h) (Or.inl ⟨by rfl, ?_⟩) ?_ ?_
                        rotate_left
                        · intro w'
                          go_simp
                          with_reducible rfl
                        rotate_left
                        · simp only [Act.put, List.setIfInBounds_toArray, List.set_cons_zero, List.set_cons_succ, i64_w, i32_w]
                          rfl
                        refine pure_ (i := 3) (N := some 95) (v := ?_) (a' := ?_) #[true, true, true, true, false, false, false, false, false, false] rfl rfl (by kernel_rfl) (fun _ _ _ h => h) (Or.inl ⟨by rfl, ?_⟩) ?_ ?_
                        rotate_left
                        · intro w'
                          go_simp
                          with_reducible rfl
                        rotate_left
                        · simp only [Act.put, List.setIfInBounds_toArray, List.set_cons_zero, List.set_cons_succ, i64_w, i32_w]
                          rfl
                        refine pure_ (i := 4) (N := some 96) (v := ?_) (a' := ?_) #[true, true, true, true, true, false, false, false, false, false] rfl rfl (by kernel_rfl) (fun _ _ _ h => h) (Or.inl ⟨by rfl, ?_⟩) ?_ ?_
                        rotate_left
                        · intro w'
                          go_simp
                          with_reducible rfl
                        rotate_left
                        · simp only [Act.put, List.setIfInBounds_toArray, List.set_cons_zero, List.set_cons_succ, i64_w, i32_w]
                          rfl
                        refine take_ (i := 5) (N := some 97) (v := ?_) (a' := ?_) #[true, true, true, true, true, true, false, false, false, false] rfl rfl (by kernel_rfl) (fun _ _ _ h => h) (Or.inl ⟨by rfl, ?_⟩) hHeld ?_ ?_
                        rotate_left
                        · intro w' hS'
                          obtain ⟨l1, l2, l3⟩ := hS'
                          go_simp
                          with_reducible rfl
                        rotate_left
                        · simp only [Act.put, List.setIfInBounds_toArray, List.set_cons_zero, List.set_cons_succ, i64_w, i32_w]
                          rfl
                        refine one_ (i := 6) (N := some 98) #[true, true, true, true, true, true, true, false, false, false] rfl rfl (by kernel_rfl) (by decide) (fun K hK => ?_)
                        refine Kd.R_lit_step kT (w0 := W0) W0.heap.size 39 (by rfl) (N := 98) rfl (xs := [(x, y)]) (inner := [.int .u64 x, .int .i64 y]) (ok := fun _ => True) (okp := fun _ => True) ?hr (Reps.c2 (kT_mkM _ _ _ _ _) (Reps.none _ _)) (fun _ hk => hk) trivial (Below.refl _ _) (Nat.le_refl _) (by simp) ?_
                        case hr => first | (go_simp; done) | (go_simp; rfl)
                        intro v6 w6 ho6 hb6 hg6 hnew6
                        obtain ⟨A6, c6, hv6⟩ := Kd.R_slice ho6
                        subst hv6
                        have HO6 := Aside0.mk (And.intro (HO5.out.step hb6) (RT_reads ho6).2.2)
                        clear ho6 hg6 hnew6
                        refine hK.out _ _ ⟨cellB hb6 hHeld.1, cellB hb6 hHeld.2.1, cellB hb6 hHeld.2.2⟩ (fun hHeld => ?_)
                        clear hK K
                        refine norm_ (a' := ?_) ?_ ?_
                        rotate_left
                        · show Act.put _ (some 98) _ = _
                          simp only [Act.put, List.setIfInBounds_toArray, List.set_cons_zero, List.set_cons_succ, i64_w, i32_w]
                          rfl
                        clear hb6
                        refine one_ (i := 7) (N := some 99) #[true, true, true, true, true, true, true, true, false, false] rfl rfl (by kernel_rfl) (by decide) (fun K hK => ?_)
                        refine Kd.R_append_rows_step kT (w0 := w6) W3.heap.size (by rfl) (.tmp 93) (.tmp 98) 25 39 (.agg #[(.int .u64 0), (.int .i64 0)]) 16 rfl Tryd.underlying25 infoT rfl (by decide) (by omega) (.slice A7 du.length c7) du [(x, y)] _ _ _ (fun k => W3.heap.size ≤ k) (fun _ => False) rfl rfl HO6.out.1.rd HO6.out.2 (fun x cs h => by rw [kT_open h]; exact kT_mkM _ _ _ _ _) (fun _ h => h.elim) (fun k hk => Nat.le_trans HO6.out.1.g.size hk) (Below.refl _ _) HO6.out.1.g.size HLN.out ?_
                        intro v7 w7 ho7 hb7 hg7 hat7
                        rw [← HDU2.out] at ho7
                        obtain ⟨A8, c8, hv8⟩ := Kd.R_slice ho7
                        subst hv8
                        have HO7 := Aside0.mk (HO6.out.1.expired H3x.out.1 ho7 hb7 hg7 hat7)
                        have n1 : w7.cell? ⟨ab, 1, none⟩ = some (.slice A7 du.length c7) := (cell_same (hb7.block ab H3x.out.1) 1).trans hHeld.1
                        have n2 : w7.cell? ⟨g4, n * 2, none⟩ = some (.int .u64 x) := (cell_same (hb7.block g4 H3x.out.2) _).trans hHeld.2.1
                        have n3 : w7.cell? ⟨g4, n * 2 + 1, none⟩ = some (.int .i64 y) := (cell_same (hb7.block g4 H3x.out.2) _).trans hHeld.2.2
                        have f7 : w7.frozen? ⟨ab, 1, none⟩ = false := Road.frozen_of_heap ((hb7.block ab H3x.out.1).trans HO6.out.1.at_)
                        clear ho7 hb7 hg7 hat7
                        refine hK.out _ _ ⟨n1, n2, n3⟩ (fun hHeld => ?_)
                        clear hK K
                        refine norm_ (a' := ?_) ?_ ?_
                        rotate_left
                        · show Act.put _ (some 99) _ = _
                          simp only [Act.put, List.setIfInBounds_toArray, List.set_cons_zero, List.set_cons_succ, i64_w, i32_w]
                          rfl
                        refine pure_ (i := 8) (N := some 100) (v := ?_) (a' := ?_) #[true, true, true, true, true, true, true, true, true, false] rfl rfl (by kernel_rfl) (fun _ _ _ h => h) (Or.inl ⟨by rfl, ?_⟩) ?_ ?_
                        rotate_left
                        · intro w'
                          go_simp
                          with_reducible rfl
                        rotate_left
                        · simp only [Act.put, List.setIfInBounds_toArray, List.set_cons_zero, List.set_cons_succ, i64_w, i32_w]
                          rfl
                        refine last_ (i := 9) (N := none) #[true, true, true, true, true, true, true, true, true, true] rfl rfl (by kernel_rfl) (by decide) (fun K hK => ?_)
                        refine skip_ (w1 := ?_) (by rfl) rfl ?_ ?_
                        rotate_left
                        · go_simp
                          rfl
                        refine hK.out _ _ ?_
                        clear hK K
                        refine done_ (by kernel_rfl) ?_
                        go_upto_region 30 with fail
                        obtain ⟨W8, hW8⟩ : ∃ W8, W8 = w7.setCell ⟨ab, 1, none⟩ (.slice A8 du2.length c8) := ⟨_, rfl⟩
                        rw [← hW8] at HO7 ⊢
                        obtain ⟨r2, r3, rt2, rt4⟩ := HC4.out HO7.out.g
                        clear hW8 p2 p3 pt2 pt4 m1
                        cases odd with
                        | false =>
                          go_wp2_with fail
                          go_quiet (fail)
                          go_wp2_with fail
                          go_roundw
                          case rel =>
                            obtain ⟨hx, hy, hn⟩ := HXY.out
                            have hxy : l.getD n dT = (x, y) := by rw [hx, hy]
                            have e1 := stay_snoc exx false l n hn false (by rw [hxy]; show (decide (exx < y) || (false && (x.tmod 2 == 1))) = _; rw [HM.out]; exact by rw [q4]; rfl)
                            have e2 := due_snoc exx l n hn true (by rw [hxy]; exact q2)
                            have hO := HO7.out.step (pw_below_drewN (Below.refl W8.heap.size W8) nq)
                            rw [hxy, ← HSD.out.1] at e1
                            rw [hxy, ← HSD.out.2] at e2
                            simp only [if_true, Bool.false_eq_true, if_false, List.append_nil] at e1 e2
                            refine ⟨n + 1, A8, c8, congrArg (Value.int .i64) HWN.out, ⟨hn⟩, ⟨?_⟩⟩
                            rw [e1, e2, ← HDU2.out]
                            exact hO
                          case measure => rw [HWN.out]; exact Road.leftOf_lt (of_eq_true j2)
                        | true =>
                          by_cases cm : m = 1
                          · subst cm
                            go_wp2_with fail
                            go_quiet (fail)
                            have HOY := Aside0.mk (HO7.out.step (pw_below_drewN (Below.refl W8.heap.size W8) nq))
                            go_wp2_with (first | ((with_reducible refine gate_builtin (b := .append) (xs := #[.tmp 122, .tmp 127]) rfl ?_); at_builtin; refine Kd.R_append kT (w0 := W8.drewN nq) W3.heap.size rfl (.tmp 122) (.tmp 127) 25 39 (.agg #[(.int .u64 0), (.int .i64 0)]) 16 rfl Tryd.underlying25 infoT rfl (by decide) (by decide) u11 st (x, y) [.int .u64 x, .int .i64 y] (fun k => W3.heap.size ≤ k) (fun _ => False) rfl rfl (kT_mkM _ _ _ _ _) (fun _ hk => hk.elim) (fun k hk => Nat.le_trans HOY.out.g.size hk) HOY.out.rs (Below.refl _ _) HOY.out.g.size HLS.out ?_; intro v9 w9 ho9 hb9 hg9 hat9; have HO9 := Aside0.mk (HOY.out.stayed H3x.out.1 ho9 hb9 hg9 hat9); clear ho9 hb9 hg9 hat9) | go_in)
                            go_roundw
                            case rel =>
                              obtain ⟨hx, hy, hn⟩ := HXY.out
                              have hxy : l.getD n dT = (x, y) := by rw [hx, hy]
                              have e1 := stay_snoc exx true l n hn true (by rw [hxy]; show (decide (exx < y) || (true && (x.tmod 2 == 1))) = _; rw [HM.out]; exact by simp)
                              have e2 := due_snoc exx l n hn true (by rw [hxy]; exact q2)
                              have hO := HO9.out
                              rw [hxy, ← HSD.out.1] at e1
                              rw [hxy, ← HSD.out.2] at e2
                              simp only [if_true, Bool.false_eq_true, if_false, List.append_nil] at e1 e2
                              refine ⟨n + 1, A8, c8, congrArg (Value.int .i64) HWN.out, ⟨hn⟩, ⟨?_⟩⟩
                              rw [e1, e2, ← HDU2.out]
                              exact hO
                            case measure => rw [HWN.out]; exact Road.leftOf_lt (of_eq_true j2)
                          · have s1 := eq_false cm
                            have s2 : (m == 1) = false := by simp [cm]
                            have s3 : decide (m = 1) = false := decide_eq_false cm
                            clear cm
                            go_wp2_with fail
                            go_quiet (fail)
                            go_wp2_with fail
                            go_roundw
                            case rel =>
                              obtain ⟨hx, hy, hn⟩ := HXY.out
                              have hxy : l.getD n dT = (x, y) := by rw [hx, hy]
                              have e1 := stay_snoc exx true l n hn false (by rw [hxy]; show (decide (exx < y) || (true && (x.tmod 2 == 1))) = _; rw [HM.out]; exact by rw [q4, s2]; rfl)
                              have e2 := due_snoc exx l n hn true (by rw [hxy]; exact q2)
                              have hO := HO7.out.step (pw_below_drewN (Below.refl W8.heap.size W8) nq)
                              rw [hxy, ← HSD.out.1] at e1
                              rw [hxy, ← HSD.out.2] at e2
                              simp only [if_true, Bool.false_eq_true, if_false, List.append_nil] at e1 e2
                              refine ⟨n + 1, A8, c8, congrArg (Value.int .i64) HWN.out, ⟨hn⟩, ⟨?_⟩⟩
                              rw [e1, e2, ← HDU2.out]
                              exact hO
                            case measure => rw [HWN.out]; exact Road.leftOf_lt (of_eq_true j2)
                      · have q1 := eq_false c
                        have q2 : decide (y ≤ exx) = false := decide_eq_false c
                        have q3 := eq_true (show exx < y by omega)
                        have q4 : decide (exx < y) = true := decide_eq_true (show exx < y by omega)
                        clear c
                        go_wp2_with fail
                        go_quiet (fail)
                        go_upto_region 30 with fail
                        obtain ⟨W8, hW8⟩ : ∃ W8, W8 = wr.drewN nq := ⟨_, rfl⟩
                        rw [← hW8]
                        have HO7 := Aside0.mk (show O3 W3 ab u11 st du A7 c7 W8 by rw [hW8]; exact HO2.out.step (pw_below_drewN (Below.refl _ _) nq))
                        obtain ⟨r2, r3, rt2, rt4⟩ := HC4.out HO7.out.g
                        clear hW8 p2 p3 pt2 pt4 m1
                        go_wp2_with fail
                        go_quiet (fail)
                        have HOY := Aside0.mk (HO7.out.step (pw_below_drewN (Below.refl W8.heap.size W8) nq))
                        go_wp2_with (first | ((with_reducible refine gate_builtin (b := .append) (xs := #[.tmp 122, .tmp 127]) rfl ?_); at_builtin; refine Kd.R_append kT (w0 := W8.drewN nq) W3.heap.size rfl (.tmp 122) (.tmp 127) 25 39 (.agg #[(.int .u64 0), (.int .i64 0)]) 16 rfl Tryd.underlying25 infoT rfl (by decide) (by decide) u11 st (x, y) [.int .u64 x, .int .i64 y] (fun k => W3.heap.size ≤ k) (fun _ => False) rfl rfl (kT_mkM _ _ _ _ _) (fun _ hk => hk.elim) (fun k hk => Nat.le_trans HOY.out.g.size hk) HOY.out.rs (Below.refl _ _) HOY.out.g.size HLS.out ?_; intro v9 w9 ho9 hb9 hg9 hat9; have HO9 := Aside0.mk (HOY.out.stayed H3x.out.1 ho9 hb9 hg9 hat9); clear ho9 hb9 hg9 hat9) | go_in)
                        go_roundw
                        case rel =>
                          obtain ⟨hx, hy, hn⟩ := HXY.out
                          have hxy : l.getD n dT = (x, y) := by rw [hx, hy]
                          have e1 := stay_snoc exx odd l n hn true (by rw [hxy]; show (decide (exx < y) || (odd && (x.tmod 2 == 1))) = _; rw [HM.out]; exact by rw [q4]; rfl)
                          have e2 := due_snoc exx l n hn false (by rw [hxy]; exact q2)
                          have hO := HO9.out
                          rw [hxy, ← HSD.out.1] at e1
                          rw [hxy, ← HSD.out.2] at e2
                          simp only [if_true, Bool.false_eq_true, if_false, List.append_nil] at e1 e2
                          refine ⟨n + 1, A7, c7, congrArg (Value.int .i64) HWN.out, ⟨hn⟩, ⟨?_⟩⟩
                          rw [e1, e2]
                          exact hO
                        case measure => rw [HWN.out]; exact Road.leftOf_lt (of_eq_true j2)
                    · have j1 := eq_false (show ¬ (n : Int) < (l.length : Int) by omega)
                      have j2 := eq_false (show ¬ n < l.length by omega)
                      have HNE := Aside0.mk (show n = l.length by have := HN.out; omega)
                      clear hn
                      go_wp2_with fail
                      go_meet
                      obtain ⟨hb3, hans, z3, hab1, htc3, hR3, -, hbase⟩ := H3.out
                      obtain ⟨g1, st1, a1, du1, ap1⟩ := HO.out
                      rw [HNE.out, List.take_length] at st1 a1 du1
                      refine ⟨rfl, rfl, ⟨?_⟩⟩
                      rw [HEQ.out]
                      exact ⟨hb3.grown g1 hb3.size (fun q hq => by injection hq with hq; omega), Kd.R_mono (Kd.R_lower st1 hbase) (fun _ _ => trivial), _, a1, Kd.R_mono (Kd.R_lower du1 hbase) (fun _ _ => trivial)⟩
                · have e : specW l (op, sq, exx, nw, odd) = (l, (0, [])) := (if_neg o0).trans ((if_neg o1).trans ((if_neg o2).trans (if_neg o3)))
                  have HEQ := Aside0.mk e
                  have p0 : (op == 0) = false := by simp [o0]
                  have p1 : (op == 1) = false := by simp [o1]
                  have p2 : (op == 2) = false := by simp [o2]
                  have p3 : (op == 3) = false := by simp [o3]
                  have p0' := eq_false o0
                  have p1' := eq_false o1
                  have p2' := eq_false o2
                  have p3' := eq_false o3
                  clear e hka o0 o1 o2 o3
                  go_wp2_with fail
                  go_meet
                  obtain ⟨hb3, hans, z3, hab1, htc3, hR3, -, hbase⟩ := H3.out
                  refine ⟨rfl, rfl, ⟨?_⟩⟩
                  rw [HEQ.out]
                  exact ⟨hb3, hR3, _, hans, Kd.R_nil _ _ _ _ _⟩
        case rest =>
          obtain ⟨rfl, rfl, HR⟩ := hcut
          obtain ⟨hbw, hR4, sv, hans, hRx⟩ := HR.out
          obtain ⟨A1, c1, hsv⟩ := Kd.R_slice hRx
          subst hsv
          obtain ⟨kd, hkd⟩ : ∃ kd, kd = (specW l (op, sq, exx, nw, odd)).2.1 := ⟨_, rfl⟩
          obtain ⟨xs, hxs⟩ : ∃ xs, xs = (specW l (op, sq, exx, nw, odd)).2.2 := ⟨_, rfl⟩
          rw [← hkd, ← hxs] at hans
          rw [← hxs] at hRx
          have hRo := Kd.R_below HS.out.2.1 hbw
          have hRx' : Kd.R kT 39 wc w.heap.size (fun k => some k ≠ u5.ownBlock) (.slice A1 xs.length c1) xs := by
            refine Kd.R_mono (Kd.R_bound hRx) (fun k hk e => ?_)
            obtain ⟨_, _, _, q, hq, cells, hc'⟩ := hk
            have : q = 39 := by simpa [kT, Kd.pair, Kd.int, Kd.scalar] using hq
            obtain ⟨inner, hown⟩ := Kd.R_own hRo
            obtain ⟨cells2, hc2⟩ := own_typed hown k e.symm
            rw [hc2, this] at hc'
            injection hc' with hc'
            injection hc' with _ hc'
            exact absurd hc' (by decide)
          have ka : wc.cell? ⟨ab, 0, none⟩ = some (.int .i64 kd) := (cell_of_row wc ab 0 _ _ _ hans).trans rfl
          have kb : wc.cell? ⟨ab, 1, none⟩ = some (.slice A1 xs.length c1) := (cell_of_row wc ab 1 _ _ _ hans).trans rfl
          have hbs : w.heap.size ≤ wc.heap.size := Nat.le_trans HS.out.2.2.size hbw.size
          have hrl : (specR [] (ts.take i)).2.length = i := by rw [specR_alen, List.length_take]; have := of_eq_true i2; omega
          have hll : ((specR [] (ts.take i)).2.length + 1) * 32 ≤ 140737488355328 := by rw [hrl]; have := HA.out.2.2; have := of_eq_true i2; omega
          obtain ⟨rs, hrs⟩ : ∃ rs, rs = (specR [] (ts.take i)).2 := ⟨_, rfl⟩
          rw [← hrs] at hRo hll
          have wi : wrap64 ((i : Int) + 1) = ((i + 1 : Nat) : Int) := Road.wrap_nat i (by have := HA.out.2.2; have := of_eq_true i2; omega)
          have HWI := Aside0.mk wi
          have HF := Aside0.mk (And.intro hbw (And.intro hR4 (And.intro hkd (And.intro hxs (And.intro hrs hbs)))))
          clear wi hbw hR4 hkd hxs hrs hrl hans hRx
          go_wp2_with (first | ((with_reducible refine gate_builtin (b := .append) (xs := #[.tmp 130, .tmp 132]) rfl ?_); at_builtin; refine Kd.R_append kA (w0 := wc) w.heap.size rfl (.tmp 130) (.tmp 132) 26 37 (.agg #[(.int .i64 0), (.slice none 0 0)]) 32 rfl Tryd.underlying26 infoA rfl (by decide) (by decide) u5 rs (kd, xs) [.int .i64 kd, .slice A1 xs.length c1] (fun _ => True) (fun k => some k ≠ u5.ownBlock) rfl rfl (kA_mkM hRx') (fun k hk => ⟨trivial, hk⟩) (fun _ _ => trivial) hRo (Below.refl _ _) hbs hll ?_; intro v1 w1 ho hb1 hg hat; have H1 := Aside0.mk (And.intro ho (And.intro hb1 hg)); clear ho hb1 hg hat) | go_in)
          go_roundw
          case rel =>
            obtain ⟨hbw, hR4, hkd, hxs, hrs, hbs⟩ := HF.out
            obtain ⟨ho, hb1, hg⟩ := H1.out
            have e1 := take_snoc ts i (of_eq_true i2)
            have e2 : specW (specR [] (ts.take i)).1 (rdTr ts i) = specW l (op, sq, exx, nw, odd) := by rw [← HL.out.1, ← HL.out.2.1]
            have e3 : (specR [] (ts.take (i + 1))).1 = (specW l (op, sq, exx, nw, odd)).1 := by rw [e1, specR_snoc, e2]
            have e4 : (specR [] (ts.take (i + 1))).2 = rs ++ [(kd, xs)] := by rw [e1, specR_snoc, e2, hrs, hkd, hxs]
            refine ⟨i + 1, congrArg (Value.int .i64) HWI.out, ⟨of_eq_true i2⟩, ⟨?_, by rw [e4]; exact ho, (HS.out.2.2.trans (hbw.mono HS.out.2.2.size)).trans hb1⟩⟩
            rw [e3]
            refine Kd.R_mono (Kd.R_move (Kd.R_bound hR4) (fun k hk' => ?_)) (fun _ q => q.1)
            obtain ⟨_, _, hlt, q, hq, cells, hc⟩ := hk'
            refine hg.block k hlt (fun e => ?_)
            have : q = 39 := by simpa [kT, Kd.pair, Kd.int, Kd.scalar] using hq
            obtain ⟨inner, hown⟩ := Kd.R_own (Kd.R_below HS.out.2.1 hbw)
            obtain ⟨cells2, hc2⟩ := own_typed hown k e.symm
            rw [hc2, this] at hc
            injection hc with hc
            injection hc with _ hc
            exact absurd hc (by decide)
          case measure => rw [HWI.out]; exact Road.leftOf_lt (of_eq_true i2)
    · have i1 := eq_false (show ¬ (i : Int) < (ts.length : Int) by omega)
      have i2 := eq_false (show ¬ i < ts.length by omega)
      obtain ⟨h1, h2, h3⟩ := HS.out
      have hi' : i = ts.length := by have := HI.out; omega
      rw [hi', List.take_length] at h1 h2
      obtain ⟨A4, c4, hv4⟩ := Kd.R_slice h1
      obtain ⟨A5, c5, hv5⟩ := Kd.R_slice h2
      subst hv4 hv5
      have HF := Aside0.mk (And.intro h1 (And.intro h2 h3))
      clear h1 h2 h3 hi' HS
      go_wp2_with fail
      refine bodyPost_ret (results_tmp2 rfl _ _ _) rfl ?_
      exact ⟨_, _, rfl, HF.out⟩

end Go.Proofs.YtnkjlfadegjjoaaDoor.WhP
