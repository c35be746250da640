/- WALKS: a script over a list of interest; who is found in it. -/
import Derived.Test.YtcnbnljlopopkaaDoorProg
import Derived.Below
import Derived.Deep.Draws
import Derived.Deep.AppendLies
import Derived.Maps.AppendAt
import Derived.OwnWalk
import Derived.Laws.BytesArg
import Derived.Laws.MakeOwn
import Derived.Laws.OwnMore
import Derived.Deep.OwnRows
import Derived.Tactics
import Derived.Lib.ConvBytes
import Derived.Laws.Slices
import Derived.WalkKit
import Derived.KernelRfl
import Derived.RowKit3
import Derived.Deep.LoopGhost
import Derived.Deep.QuietTactic
import Derived.BigQuiet
import Derived.WideLaws
import Derived.Deep.DeepCutAuto
import Derived.Deep.CutBlock
import Derived.Deep.RegionHeld3
import Derived.Laws.Rows
import Derived.Lib.AppendStr
import Derived.ArgAppend
import Derived.Laws.IdiomCopy
import Derived.OrdersHeld
import Derived.Laws.BitsLemmas
import Derived.RowKit
import Derived.Test.YtcnbnljlopopkaaDoorWWords
import Derived.Test.YtcnbnljlopopkaaDoorWLast
import Derived.Test.YtcnbnljlopopkaaDoorWTab
import Derived.Test.YtcnbnljlopopkaaDoorWFour
import Derived.Test.YtcnbnljlopopkaaDoorWQPut
import Derived.Test.YtcnbnljlopopkaaDoorWApart
import Derived.Test.YtcnbnljlopopkaaDoorWArr
import Derived.Test.YtcnbnljlopopkaaDoorWZeros
import Derived.Test.YtcnbnljlopopkaaDoorWFoot
import Derived.Test.YtcnbnljlopopkaaDoorWKept
import Derived.Test.YtcnbnljlopopkaaDoorWShare
import Derived.Test.YtcnbnljlopopkaaDoorWN
import Derived.Test.YtcnbnljlopopkaaDoorWFootNe
import Derived.Test.YtcnbnljlopopkaaDoorWAt
import Derived.Test.YtcnbnljlopopkaaDoorWEqStruct
import Derived.Test.YtcnbnljlopopkaaDoorWRepsOne
import Derived.Test.YtcnbnljlopopkaaDoorWInv
import Derived.Test.YtcnbnljlopopkaaDoorWInvWords
import Derived.Test.YtcnbnljlopopkaaDoorWGuard
import Derived.Test.YtcnbnljlopopkaaDoorWNEv
import Derived.Test.YtcnbnljlopopkaaDoorWMore
import Derived.Test.YtcnbnljlopopkaaDoorLsC
namespace Go.Proofs.YtcnbnljlopopkaaDoor.LsD
open Go.RowKit Go.Proofs.YtcnbnljlopopkaaDoorW.PrintWords Go.Proofs.YtcnbnljlopopkaaDoorW.PrintLast Go.Proofs.YtcnbnljlopopkaaDoorW.PrintMore
attribute [local go_sem] max2_int min2_int max_two min_two max_three min_three max_four min_four   -- for this text's walks alone
set_option linter.unusedVariables false
set_option linter.unusedSimpArgs false



open Go.Maps
open _root_.Go.Proofs.YtcnbnljlopopkaaDoor.LsA
open _root_.Go.Proofs.YtcnbnljlopopkaaDoor.LsB
open _root_.Go.Proofs.YtcnbnljlopopkaaDoor.LsC
/-! ### tokens by points -/
@[reducible] def TK : ByteArray → Path := Road.tokB
theorem zzSplit_loop (s : ByteArray) (hs : s.size ≤ 2147483647) (d : Nat) : ∀ (i a : Nat) (out : List ByteArray), a ≤ i → i ≤ (Road.bl s).length → (Road.bl s).length - i = d → out.length + d < 8796093022208 →
  Ev (fun k => LsQ.gsl_zzSplit.l0 k s { data := #[46] } out (a : Int) (i : Int)) (out ++ (Road.toks (((Road.bl s).take i).drop a) ((Road.bl s).drop i)).map Road.mkB) := by
 have hl := Road.bl_len s
 have hd : (({ data := #[46] } : ByteArray).size : Int) = 1 := rfl
 have hb0 : bt { data := #[46] } 0 = 46 := by decide
 induction d with
 | zero =>
  intro i a out h1 h2 h3 h4
  have hi : i = (Road.bl s).length := by omega
  refine Ev.step (f := fun _ => some (out ++ [s.extract a s.size])) (fun k => ?_) ?_
  ·
   simp only [LsQ.gsl_zzSplit.l0]
   rw [if_neg (by omega), if_pos (by omega), if_pos (by omega), if_pos (by omega)]
   simp
  ·
   rw [hi, List.drop_length, List.take_length, Road.extract_mkB, ← hl, List.take_length]
   exact Ev.now _
 | succ d ih =>
  intro i a out h1 h2 h3 h4
  have hlt : i < (Road.bl s).length := by omega
  have hb := Road.bt_get s i hlt
  rw [Road.drop_get _ _ hlt]
  by_cases hc : (Road.bl s)[i] = 46
  ·
   refine Ev.step (f := fun k => LsQ.gsl_zzSplit.l0 k s { data := #[46] } (out ++ [s.extract a i]) ((i + 1 : Nat) : Int) ((i + 1 : Nat) : Int)) (fun k => ?_) ?_
   ·
    simp only [LsQ.gsl_zzSplit.l0]
    rw [if_pos (by omega), if_pos (by omega), if_pos (by omega), if_pos (by rw [hb0, hb, hc]; rfl), if_pos (by omega), if_pos (by omega), if_pos (by omega), if_pos (by omega), Road.wrap_nat i (by omega)]
    simp
   ·
    have := ih (i + 1) (i + 1) (out ++ [s.extract a i]) (Nat.le_refl _) (by omega) (by omega) (by simp; omega)
    rw [Road.toks, if_pos hc]
    simpa [Road.extract_mkB] using this
  ·
   refine Ev.step (f := fun k => LsQ.gsl_zzSplit.l0 k s { data := #[46] } out (a : Int) ((i + 1 : Nat) : Int)) (fun k => ?_) ?_
   ·
    simp only [LsQ.gsl_zzSplit.l0]
    rw [if_pos (by omega), if_pos (by omega), if_pos (by omega), if_neg (by rw [hb0, hb]; intro h; exact hc ((Road.u8_eq _ 46 (by omega)).1 h)), Road.wrap_nat i (by omega)]
   ·
    have := ih (i + 1) a out (by omega) (by omega) (by omega) (by omega)
    rw [Road.toks, if_neg hc, ← Road.take_drop_snoc _ _ _ h1 hlt]
    exact this
theorem zzSplit_ev (s : ByteArray) (hs : s.size ≤ 2147483647) : ∃ k, LsQ.gsl_zzSplit.f k s { data := #[46] } = some (TK s) := by
 have := zzSplit_loop s hs (Road.bl s).length 0 0 [] (by omega) (by omega) (by omega) (by have := Road.bl_len s; simp; omega)
 obtain ⟨k, hk⟩ : Ev (fun k => LsQ.gsl_zzSplit.f k s { data := #[46] }) (TK s) := by simpa [LsQ.gsl_zzSplit.f, TK, Road.tokB] using this
 exact ⟨k, hk k (Nat.le_refl _)⟩
theorem TK_ne (s : ByteArray) : TK s ≠ [] := by
 unfold TK Road.tokB
 intro h
 exact Road.toks_ne _ _ (List.map_eq_nil_iff.1 h)
theorem TK_len (s : ByteArray) : (TK s).length ≤ s.size + 1 := by
 rw [Road.tokB_length, ← Road.bl_len]
 exact Road.toks_length_le _
theorem TK_inj {s t : ByteArray} (h : TK s = TK t) : s = t := by
 unfold TK Road.tokB at h
 exact Road.bl_inj (Road.toks_inj ((List.map_inj_right (fun a b => Road.mkB_inj)).1 h))
theorem sum_one : ∀ (l : List Road.Bs) (t : Road.Bs), t ∈ l → t.length ≤ (l.map fun t => t.length + 1).sum
 | x :: l, t, h => by
  rw [List.map_cons, List.sum_cons]
  rcases List.mem_cons.1 h with rfl | h
  ·
   omega
  ·
   have := sum_one l t h
   omega
theorem TK_tok {s : ByteArray} (i : Nat) (h : i < (TK s).length) : ∃ t ∈ Road.toks [] (Road.bl s), (TK s).getD i ByteArray.empty = Road.mkB t ∧ t.length ≤ s.size + 1 := by
 have h' : i < (Road.toks [] (Road.bl s)).length := by rw [← Road.tokB_length]; exact h
 refine ⟨(Road.toks [] (Road.bl s))[i], List.getElem_mem h', ?_, ?_⟩
 ·
  rw [List.getD_eq_getElem?_getD, List.getElem?_eq_getElem h]
  simp [TK, Road.tokB]
 ·
  have h1 := Road.toks_len [] (Road.bl s)
  have h2 := sum_one _ _ (List.getElem_mem h')
  rw [h1, Road.bl_len] at h2
  simpa using h2
theorem TK_ok {s : ByteArray} (hs : s.size ≤ 100000) (i : Nat) (h : i < (TK s).length) : okS ((TK s).getD i ByteArray.empty) := by
 obtain ⟨t, _, e, hl⟩ := TK_tok i h
 rw [e]
 unfold okS maxLen
 rw [Road.size_mkB]
 omega
theorem formed_gts : ∀ (ts : List Road.Bs) (i : Nat), Road.formedB ts = true → ∀ (h : i < ts.length), ts[i] = [62] → i + 1 = ts.length
 | t :: ts, 0, hf, h, e => by
  have := Road.formedB_gt hf e
  subst this
  rfl
 | t :: ts, i + 1, hf, h, e => by
  have := formed_gts ts i (Road.formedB_tail hf) (by simpa using h) (by simpa using e)
  rw [List.length_cons]
  omega
theorem TK_good {s : ByteArray} (hs : s.size ≤ 100000) (hf : Road.formedB (Road.toks [] (Road.bl s)) = true) : TkOk (TK s) := by
 have hlen := TK_len s
 refine ⟨TK_ne s, by omega, fun i hi => ⟨?_, TK_ok hs i hi⟩, fun i hi e => ?_⟩
 ·
  obtain ⟨t, ht, e, _⟩ := TK_tok i hi
  rw [e, Road.size_mkB]
  intro h0
  exact Road.formedB_ne hf t ht (List.eq_nil_of_length_eq_zero h0)
 ·
  have h' : i < (Road.toks [] (Road.bl s)).length := by rw [← Road.tokB_length]; exact hi
  rw [Road.tokB_length]
  refine formed_gts _ i hf h' ?_
  have e2 : (TK s).getD i ByteArray.empty = Road.mkB ((Road.toks [] (Road.bl s))[i]) := by
   rw [List.getD_eq_getElem?_getD, List.getElem?_eq_getElem hi]
   simp [TK, Road.tokB]
  rw [e2] at e
  have := congrArg Road.bl e
  rw [Road.bl_mkB] at this
  exact this
/-! ### deeds over a list -/
abbrev Dd := Int × ByteArray × Int
def kDd : Kd Dd := Kd.pair (Kd.int .i64) (Kd.pair Kd.string (Kd.int .i64))
def dD : Dd := (0, ByteArray.empty, 0)
theorem kDd_open {w : World} {x : Dd} {cs : List Value} (h : kDd.K w x cs) : cs = [.int .i64 x.1, .string x.2.1, .int .i64 x.2.2] := by
 obtain ⟨_, _, rfl, rfl, ⟨_, _, rfl, rfl, rfl⟩⟩ := h
 exact rfl
def rdD (ds : List Dd) (i : Nat) : Dd := ds.getD i dD
theorem at_Dd {w : World} {A : Option Addr} {n : Nat} {ds : List Dd} (h : Kd.C kDd w A n ds) (i : Nat) (h1 : i < n) : ∃ ad, A = some ad ∧ w.cell? (ad.add (i * 3)) = some (.int .i64 (rdD ds i).1) ∧ w.cell? ⟨(ad.add (i * 3)).block, (ad.add (i * 3)).off + 1, none⟩ = some (.string (rdD ds i).2.1) ∧
  w.cell? ⟨(ad.add (i * 3)).block, (ad.add (i * 3)).off + 2, none⟩ = some (.int .i64 (rdD ds i).2.2) := by
 obtain ⟨ad, c, e, _, hK, hc0⟩ := Kd.C_get h dD (i : Int) (by omega) (by omega)
 simp only [Int.toNat_natCast] at hc0 hK
 have hc : ∀ j u, c[j]? = some u → w.cell? (ad.add (i * 3 + j)) = some u := hc0
 obtain rfl := kDd_open hK
 exact ⟨ad, e, hc 0 _ rfl, by rw [← add_field _ _ 1 (by omega)]; exact hc 1 _ rfl, by rw [← add_field _ _ 2 (by omega)]; exact hc 2 _ rfl⟩
def inE (E : List Ent) (x : Ent) : Bool := E.any (fun e => decide (e = x))
theorem inE_iff {E : List Ent} {x : Ent} : inE E x = true ↔ x ∈ E := by
 unfold inE
 rw [List.any_eq_true]
 exact ⟨fun ⟨e, he, h⟩ => by rw [decide_eq_true_eq] at h; rw [← h]; exact he, fun h => ⟨x, h, by simp⟩⟩
def stepK (E : List Ent) (d : Dd) : List Ent × Int :=
 if d.1 = 0 then ((d.2.1, d.2.2) :: E, 0) else if d.1 = 1 then (if inE E (d.2.1, d.2.2) = true then (dropE E (d.2.1, d.2.2), 0) else (E, 1)) else (E, 0)
def runK : List Ent → List Dd → List Ent × List Int
 | E, [] => (E, [])
 | E, d :: ds => ((runK (stepK E d).1 ds).1, (stepK E d).2 :: (runK (stepK E d).1 ds).2)
structure GoodK (E : List Ent) (d : Dd) : Prop where
 sz : d.2.1.size ≤ 100000
 v : okI d.2.2
 put : d.1 = 0 → Road.formedB (Road.toks [] (Road.bl d.2.1)) = true ∧ (d.2.1, d.2.2) ∉ E
def GoodsK : List Ent → List Dd → Prop
 | _, [] => True
 | E, d :: ds => GoodK E d ∧ GoodsK (stepK E d).1 ds
theorem runK_append : ∀ (ds es : List Dd) (E : List Ent), runK E (ds ++ es) = ((runK (runK E ds).1 es).1, (runK E ds).2 ++ (runK (runK E ds).1 es).2)
 | [], es, E => rfl
 | d :: ds, es, E => by rw [List.cons_append, runK, runK_append ds es]; rfl
theorem GoodsK_append : ∀ (ds es : List Dd) (E : List Ent), GoodsK E (ds ++ es) ↔ GoodsK E ds ∧ GoodsK (runK E ds).1 es
 | [], es, E => by simp [GoodsK, runK]
 | d :: ds, es, E => by rw [List.cons_append, GoodsK, GoodsK_append ds es, GoodsK, runK]; exact and_assoc.symm
theorem takeD {ds : List Dd} {i : Nat} (h : i < ds.length) : ds.take (i + 1) = ds.take i ++ [rdD ds i] := by
 rw [List.take_add_one, rdD, List.getD_eq_getElem?_getD, List.getElem?_eq_getElem h]
 rfl
theorem GoodsK_at {ds : List Dd} {E : List Ent} (h : GoodsK E ds) (i : Nat) (hi : i < ds.length) : GoodK (runK E (ds.take i)).1 (rdD ds i) := by
 rw [← List.take_append_drop (i + 1) ds, takeD hi, List.append_assoc] at h
 exact ((GoodsK_append _ _ _).1 h).2.1
theorem stepK_len (E : List Ent) (d : Dd) : (stepK E d).1.length ≤ E.length + 1 := by
 unfold stepK
 split
 ·
  simp
 ·
  split
  ·
   split
   ·
    exact Nat.le_succ_of_le (List.length_filter_le (fun e => decide (e ≠ (d.2.1, d.2.2))) E)
   ·
    exact Nat.le_succ _
  ·
   exact Nat.le_succ _
theorem runK_len : ∀ (ds : List Dd) (E : List Ent), (runK E ds).1.length ≤ E.length + ds.length
 | [], E => Nat.le_refl _
 | d :: ds, E => by
  have h1 := runK_len ds (stepK E d).1
  have h2 := stepK_len E d
  show (runK (stepK E d).1 ds).1.length ≤ _
  rw [List.length_cons]
  omega
theorem runK_klen : ∀ (ds : List Dd) (E : List Ent), (runK E ds).2.length = ds.length
 | [], E => rfl
 | d :: ds, E => by show ((stepK E d).2 :: (runK (stepK E d).1 ds).2).length = _; rw [List.length_cons, List.length_cons, runK_klen ds]
theorem listAt_keep {tk : ByteArray → Path} {N B hb : Nat} {w w' : World} {E : List Ent} (h : ListAt tk N w B hb E) (hk : ∀ (k : Nat) (o : Obj), w.heap[k]? = some o → wl o = true → w'.heap[k]? = some o) : ListAt tk N w' B hb E := by
 obtain ⟨root, T, hH, hM, hL⟩ := h
 exact ⟨root, T, hk _ _ hH rfl, hM.keep (fun k o ho hm => hk k o ho (wl_of_wm hm)), hL⟩
theorem listAt_below {tk : ByteArray → Path} {N B hb : Nat} {w w' : World} {E : List Ent} (h : ListAt tk N w B hb E) (hB : Below w.heap.size w w') : ListAt tk N w' B hb E :=
 listAt_keep h (fun _ _ ho _ => (hB.block _ (lt_some ho)).trans ho)
theorem listAt_mono {tk : ByteArray → Path} {N N' B hb : Nat} {w : World} {E : List Ent} (h : ListAt tk N w B hb E) (hn : N ≤ N') : ListAt tk N' w B hb E := by
 obtain ⟨root, T, hH, hM, hL⟩ := h
 exact ⟨root, T, hH, hM.mono hn, hL⟩
theorem RI_keep {w w' : World} {base : Nat} {ok : Nat → Prop} {v : Value} {l : List Int} (h : Kd.R (Kd.int .i64) 3 w base ok v l) (hk : ∀ (k : Nat) (o : Obj), w.heap[k]? = some o → wl o = false → w'.heap[k]? = some o) : Kd.R (Kd.int .i64) 3 w' base ok v l := by
 refine Kd.R_mono (Kd.R_move (Kd.R_bound h) (fun k hk' => ?_)) (fun _ q => q.1)
 obtain ⟨_, _, _, q, hq, cells, hc⟩ := hk'
 rw [hc]
 refine hk k _ hc ?_
 have : q = 3 := by simpa [Kd.int, Kd.scalar] using hq
 rw [this]
 rfl
theorem infoI : (Tryd.prog.info? 3).map (fun i => (i.zero, i.size, i.bytes)) = some (some (.int .i64 0), 1, 8) := by kernel_rfl
/-- A row of numbers grows; a list stays. -/
theorem listAt_grow {tk : ByteArray → Path} {N B hb base : Nat} {w w' : World} {E : List Ent} {v : Value} {ok : Nat → Prop} {l : List Int} (h : ListAt tk N w B hb E) (hR : Kd.R (Kd.int .i64) 3 w base ok v l) (hg : w.grownBy w' v.ownBlock) : ListAt tk N w' B hb E :=
 listAt_keep h (fun k o ho hk => (hg.block k (lt_some ho) (fun e => by
  obtain ⟨inner, hown⟩ := Kd.R_own hR
  obtain ⟨cells, hc⟩ := own_typed hown k e.symm
  rw [hc] at ho
  injection ho with ho
  rw [← ho] at hk
  exact absurd hk (by simp [wl]))).trans ho)
set_option maxHeartbeats 4000000 in
set_option maxRecDepth 100000 in
theorem Remove_calls (N B hb : Nat) (E : List Ent) (s : ByteArray) (v : Int) (w : World) (h : ListAt TK N w B hb E) (hBw : B ≤ w.heap.size) (hBh : B ≤ hb) (hv : okI v) (hs : s.size ≤ 100000) (hN : N < 1000000000000) (hE : E.length < 1000000) (hX : GLaid w) :
  Calls Tryd.prog 50 #[.pointer (some ⟨hb, 0, none⟩), .string s, .int .i64 v] w fun e w' => RemQ TK N B hb E s v w e w' := by
 have HC := Aside0.mk (remove_calls TK N B hb E s v w h hBw hBh hv (TK_ne s) (by have := TK_len s; omega) (fun i hi => TK_ok hs i hi) (zzSplit_ev s (by omega)) (fun s' e => TK_inj e) hN hE hX)
 clear h hBw hBh hv hs hN hE hX
 go_enter Tryd.func50, Tryd.ntmps50
 go_wp2_with fail
 refine HC.out.mono ?_
 rintro en w1 ⟨r, rfl, h1⟩
 have H1 := Aside0.mk h1
 clear h1 HC
 go_wp2_with fail
 go_ret
 exact ⟨r, rfl, H1.out⟩
set_option maxHeartbeats 40000000 in
set_option maxRecDepth 100000 in
theorem list_calls (ds : List Dd) (A : Option Addr) (c : Nat) (w : World) (hC : Kd.C kDd w A ds.length ds) (hc : ds.length ≤ c) (hX : GLaid w) (hG : GoodsK [] ds) (hl : ds.length < 100000) :
  Calls Tryd.prog 34 #[.slice A ds.length c] w fun en w' => ∃ hb vk, en = .returned (.tuple #[.pointer (some ⟨hb, 0, none⟩), vk]) ∧ ListAt TK (ds.length * 200000) w' w.heap.size hb (runK [] ds).1 ∧ Kd.R (Kd.int .i64) 3 w' w.heap.size (fun _ => True) vk (runK [] ds).2 ∧ Below w.heap.size w w' ∧ w.heap.size ≤ hb := by
 have HA := Aside0.mk (And.intro hC (And.intro hc (And.intro hX (And.intro hG hl))))
 have HNW := Aside0.mk (new_calls TK w)
 clear hC hc hX hG hl
 go_enter Tryd.func34, Tryd.ntmps34
 go_wp2_with fail
 refine HNW.out.mono ?_
 rintro en w1 ⟨hb, x, rfl, hbb, hH, hM, hb1⟩
 have hL0 : ListAt TK 0 w1 w.heap.size hb [] := ⟨x.b, T0 x, hH, hM, ⟨fun p hp => absurd (show (none : Option Rc) = none from rfl) hp, fun p hp => absurd (show (none : Option Rc) = none from rfl) hp, rfl, ⟨x.m, rfl⟩, List.nodup_nil, fun e he => by simp at he⟩⟩
 have H1 := Aside0.mk (And.intro hL0 (And.intro hb1 hbb))
 clear hbb hH hM hb1 hL0 HNW
 go_wp2_with fail
 go_loopw [5, 6] (fun v5 v6 wr => ∃ (i : Nat), v6 = .int .i64 (i : Int) ∧ Aside0 (i ≤ ds.length ∧ ListAt TK (i * 200000) wr w.heap.size hb (runK [] (ds.take i)).1 ∧ Kd.R (Kd.int .i64) 3 wr w.heap.size (fun _ => True) v5 (runK [] (ds.take i)).2 ∧ Below w.heap.size w wr)) (fun _ v6 _ => Road.leftOf ds.length v6)
 case atStart => exact ⟨0, rfl, ⟨Nat.zero_le _, H1.out.1, Kd.R_nil _ _ _ _ _, H1.out.2.1⟩⟩
 case round =>
  obtain ⟨i, rfl, HI⟩ := hrel
  rcases Nat.lt_or_ge i ds.length with hi | hi
  ·
   have i1 := eq_true (show (i : Int) < (ds.length : Int) by omega)
   have i2 := eq_true hi
   have HWK := Aside0.mk (Road.wrap_nat i (by have := HA.out.2.2.2.2; omega))
   obtain ⟨ad, rfl, d0, d1, d2⟩ := at_Dd (Kd.C_below HA.out.1 HI.out.2.2.2) i hi
   obtain ⟨⟨op, s, v⟩, ht⟩ : ∃ t, t = rdD ds i := ⟨_, rfl⟩
   rw [← ht] at d0 d1 d2
   have hgd := GoodsK_at HA.out.2.2.2.1 i hi
   rw [← ht] at hgd
   have htk := takeD hi
   rw [← ht] at htk
   have hlen := runK_len (ds.take i) []
   have hkl := runK_klen (ds.take i) []
   rw [List.length_take] at hlen hkl
   obtain ⟨E1, hE1⟩ : ∃ x, x = (runK [] (ds.take i)).1 := ⟨_, rfl⟩
   obtain ⟨K1, hK1⟩ : ∃ x, x = (runK [] (ds.take i)).2 := ⟨_, rfl⟩
   rw [← hE1] at hgd hlen
   rw [← hK1] at hkl
   have hrun : runK [] (ds.take (i + 1)) = ((stepK E1 (op, s, v)).1, K1 ++ [(stepK E1 (op, s, v)).2]) := by rw [htk, runK_append, ← hE1, ← hK1]; rfl
   have hL := HI.out.2.1
   have hR := HI.out.2.2.1
   rw [← hE1] at hL
   rw [← hK1] at hR
   have hbel := HI.out.2.2.2
   have HT := Aside0.mk (And.intro hgd (And.intro hrun (And.intro hlen (And.intro hkl (And.intro hL (And.intro hR (And.intro hi hbel)))))))
   clear hgd hrun hlen hkl hL hR hi htk hE1 hK1 HI hbel ht
   go_upto_region 7 with fail
   obtain ⟨W2, hW2⟩ : ∃ W2, W2 = wr.alloc (.cells #[.int .i64 op, .string s, .int .i64 v] 51) := ⟨_, rfl⟩
   rw [← hW2]
   have hb2 : Below wr.heap.size wr W2 := by rw [hW2]; exact below_alloc (Below.refl _ _) _
   have htc : W2.heap[wr.heap.size]? = some (.cells #[.int .i64 op, .string s, .int .i64 v] 51 (0, 0)) := by rw [hW2]; exact heap_alloc_new wr _
   have k0 : W2.cell? ⟨wr.heap.size, 0, none⟩ = some (.int .i64 op) := (cell_of_row W2 _ 0 _ _ _ htc).trans rfl
   have k1 : W2.cell? ⟨wr.heap.size, 1, none⟩ = some (.string s) := (cell_of_row W2 _ 1 _ _ _ htc).trans rfl
   have k2 : W2.cell? ⟨wr.heap.size, 2, none⟩ = some (.int .i64 v) := (cell_of_row W2 _ 2 _ _ _ htc).trans rfl
   have hL2 := listAt_below HT.out.2.2.2.2.1 hb2
   have hR2 := Kd.R_below HT.out.2.2.2.2.2.1 hb2
   have hbl2 : Below w.heap.size w W2 := HT.out.2.2.2.2.2.2.2.trans (hb2.mono HT.out.2.2.2.2.2.2.2.size)
   have hX2 : GLaid W2 := HA.out.2.2.1.below hbl2
   have HW2 := Aside0.mk (And.intro hL2 (And.intro hR2 (And.intro hbl2 hX2)))
   clear d0 d1 d2 hb2 htc hL2 hR2 hbl2 hX2 hW2
   by_cases h0 : op = 0
   ·
    subst h0
    have hput := HT.out.1.put rfl
    have hin := insert_calls TK (i * 200000) w.heap.size hb E1 s v W2 HW2.out.1 HW2.out.2.2.1.size H1.out.2.2 (by have h7 : s.size ≤ 100000 := HT.out.1.sz; unfold okS maxLen; omega) HT.out.1.v (TK_good HT.out.1.sz hput.1) (zzSplit_ev s (by have h7 : s.size ≤ 100000 := HT.out.1.sz; omega)) (fun s' e => TK_inj e) hput.2 (by have := HA.out.2.2.2.2; have := HT.out.2.2.2.2.2.2.1; omega) (by have := HT.out.2.2.1; have := HA.out.2.2.2.2; have := HT.out.2.2.2.2.2.2.1; have h0 : ([] : List Ent).length = 0 := rfl; omega)
    have HIN := Aside0.mk hin
    clear hin hput
    go_wp2_with fail
    refine HIN.out.mono ?_
    rintro en w3 ⟨rfl, hL3, hch3⟩
    have hR3 := RI_keep HW2.out.2.1 hch3.typ
    have hbl3 : Below w.heap.size w w3 := HW2.out.2.2.1.trans (hch3.below HW2.out.2.2.1.size)
    have H3 := Aside0.mk (And.intro hL3 (And.intro hR3 hbl3))
    clear hL3 hch3 hR3 hbl3 HIN
    go_wp2_with fail
    refine (one_nil w3).mono ?_
    rintro en w3' ⟨rfl, rfl⟩
    go_wp2_with (first | ((with_reducible refine gate_builtin (b := .append) (xs := #[.tmp 26, .tmp 34]) rfl ?_); at_builtin; refine Kd.R_append (Kd.int .i64) (w0 := w) w.heap.size rfl (.tmp 26) (.tmp 34) 40 3 (.int .i64 0) 8 rfl Tryd.underlying40 infoI rfl (by decide) (by decide) _ K1 0 [.int .i64 0] (fun _ => True) (fun _ => False) rfl rfl rfl (fun _ hk => hk.elim) (fun k hk => trivial) H3.out.2.1 H3.out.2.2 H3.out.2.2.size (by have := HA.out.2.2.2.2; have := HT.out.2.2.2.1; have := HT.out.2.2.2.2.2.2.1; omega) ?_; intro v5_ w5 ho6 hb6 hg6 hat6; have H5 := Aside0.mk (And.intro ho6 (And.intro hb6 hg6)); clear ho6 hb6 hg6 hat6) | fail)
    go_wp2_with fail
    go_roundw
    case rel =>
     refine ⟨i + 1, congrArg (Value.int .i64) HWK.out, ⟨HT.out.2.2.2.2.2.2.1, ?_, ?_, H5.out.2.1⟩⟩
     ·
      rw [HT.out.2.1]
      refine listAt_mono (listAt_grow H3.out.1 H3.out.2.1 H5.out.2.2) ?_
      have := TK_len s
      have := HT.out.1.sz
      have h7 : s.size ≤ 100000 := this
      omega
     ·
      rw [HT.out.2.1]; exact H5.out.1
    case measure => rw [HWK.out]; exact Road.leftOf_lt (of_eq_true i2)
   ·
    by_cases h1 : op = 1
    ·
     subst h1
     have hrm := Remove_calls (i * 200000) w.heap.size hb E1 s v W2 HW2.out.1 HW2.out.2.2.1.size H1.out.2.2 HT.out.1.v HT.out.1.sz (by have := HA.out.2.2.2.2; have := HT.out.2.2.2.2.2.2.1; omega) (by have := HT.out.2.2.1; have := HA.out.2.2.2.2; have := HT.out.2.2.2.2.2.2.1; have h0 : ([] : List Ent).length = 0 := rfl; omega) HW2.out.2.2.2
     have HRM := Aside0.mk hrm
     clear hrm h0
     go_wp2_with fail
     refine HRM.out.mono ?_
     rintro en w3 ⟨r, rfl, hres, hch3⟩
     have hR3 := RI_keep HW2.out.2.1 hch3.typ
     have hbl3 : Below w.heap.size w w3 := HW2.out.2.2.1.trans (hch3.below HW2.out.2.2.1.size)
     rcases hres with ⟨hin, rfl, hL3⟩ | ⟨hin, ⟨et, ev, rfl⟩, hL3⟩
     ·
      have hst : stepK E1 (1, s, v) = (dropE E1 (s, v), 0) := (if_neg (show ¬ (1 : Int) = 0 by decide)).trans ((if_pos rfl).trans (if_pos (inE_iff.2 hin)))
      have H3 := Aside0.mk (And.intro hL3 (And.intro hR3 (And.intro hbl3 hst)))
      clear hL3 hch3 hR3 hbl3 HRM hst hin
      go_wp2_with fail
      refine (one_nil w3).mono ?_
      rintro en w3' ⟨rfl, rfl⟩
      go_wp2_with (first | ((with_reducible refine gate_builtin (b := .append) (xs := #[.tmp 38, .tmp 46]) rfl ?_); at_builtin; refine Kd.R_append (Kd.int .i64) (w0 := w) w.heap.size rfl (.tmp 38) (.tmp 46) 40 3 (.int .i64 0) 8 rfl Tryd.underlying40 infoI rfl (by decide) (by decide) _ K1 0 [.int .i64 0] (fun _ => True) (fun _ => False) rfl rfl rfl (fun _ hk => hk.elim) (fun k hk => trivial) H3.out.2.1 H3.out.2.2.1 H3.out.2.2.1.size (by have := HA.out.2.2.2.2; have := HT.out.2.2.2.1; have := HT.out.2.2.2.2.2.2.1; omega) ?_; intro v5_ w5 ho6 hb6 hg6 hat6; have H5 := Aside0.mk (And.intro ho6 (And.intro hb6 hg6)); clear ho6 hb6 hg6 hat6) | fail)
      go_wp2_with fail
      go_roundw
      case rel =>
       refine ⟨i + 1, congrArg (Value.int .i64) HWK.out, ⟨HT.out.2.2.2.2.2.2.1, ?_, ?_, H5.out.2.1⟩⟩
       ·
        rw [HT.out.2.1, H3.out.2.2.2]
        exact listAt_mono (listAt_grow H3.out.1 H3.out.2.1 H5.out.2.2) (by omega)
       ·
        rw [HT.out.2.1, H3.out.2.2.2]; exact H5.out.1
      case measure => rw [HWK.out]; exact Road.leftOf_lt (of_eq_true i2)
     ·
      have hst : stepK E1 (1, s, v) = (E1, 1) := (if_neg (show ¬ (1 : Int) = 0 by decide)).trans ((if_pos rfl).trans (if_neg (fun q => hin (inE_iff.1 q))))
      have H3 := Aside0.mk (And.intro hL3 (And.intro hR3 (And.intro hbl3 hst)))
      clear hL3 hch3 hR3 hbl3 HRM hst hin
      go_wp2_with fail
      refine (one_err et ev w3).mono ?_
      rintro en w3' ⟨rfl, rfl⟩
      go_wp2_with (first | ((with_reducible refine gate_builtin (b := .append) (xs := #[.tmp 38, .tmp 46]) rfl ?_); at_builtin; refine Kd.R_append (Kd.int .i64) (w0 := w) w.heap.size rfl (.tmp 38) (.tmp 46) 40 3 (.int .i64 0) 8 rfl Tryd.underlying40 infoI rfl (by decide) (by decide) _ K1 1 [.int .i64 1] (fun _ => True) (fun _ => False) rfl rfl rfl (fun _ hk => hk.elim) (fun k hk => trivial) H3.out.2.1 H3.out.2.2.1 H3.out.2.2.1.size (by have := HA.out.2.2.2.2; have := HT.out.2.2.2.1; have := HT.out.2.2.2.2.2.2.1; omega) ?_; intro v5_ w5 ho6 hb6 hg6 hat6; have H5 := Aside0.mk (And.intro ho6 (And.intro hb6 hg6)); clear ho6 hb6 hg6 hat6) | fail)
      go_wp2_with fail
      go_roundw
      case rel =>
       refine ⟨i + 1, congrArg (Value.int .i64) HWK.out, ⟨HT.out.2.2.2.2.2.2.1, ?_, ?_, H5.out.2.1⟩⟩
       ·
        rw [HT.out.2.1, H3.out.2.2.2]
        exact listAt_mono (listAt_grow H3.out.1 H3.out.2.1 H5.out.2.2) (by omega)
       ·
        rw [HT.out.2.1, H3.out.2.2.2]; exact H5.out.1
      case measure => rw [HWK.out]; exact Road.leftOf_lt (of_eq_true i2)
    ·
     have hst : stepK E1 (op, s, v) = (E1, 0) := (if_neg h0).trans (if_neg h1)
     have y1 : (op == 0) = false := beq_eq_false_iff_ne.2 h0
     have y2 : (op == 1) = false := beq_eq_false_iff_ne.2 h1
     have y3 := eq_false h0
     have y4 := eq_false h1
     have H3 := Aside0.mk (And.intro HW2.out.1 (And.intro HW2.out.2.1 (And.intro HW2.out.2.2.1 hst)))
     clear h0 h1 hst
     obtain ⟨w3, hw3⟩ : ∃ z, z = W2 := ⟨_, rfl⟩
     rw [← hw3]
     rw [← hw3] at k0 k1 k2 H3
     clear hw3
     go_wp2_with (first | ((with_reducible refine gate_builtin (b := .append) (xs := #[.tmp 21, .tmp 22]) rfl ?_); at_builtin; refine Kd.R_append (Kd.int .i64) (w0 := w) w.heap.size rfl (.tmp 21) (.tmp 22) 40 3 (.int .i64 0) 8 rfl Tryd.underlying40 infoI rfl (by decide) (by decide) _ K1 0 [.int .i64 0] (fun _ => True) (fun _ => False) rfl rfl rfl (fun _ hk => hk.elim) (fun k hk => trivial) H3.out.2.1 H3.out.2.2.1 H3.out.2.2.1.size (by have := HA.out.2.2.2.2; have := HT.out.2.2.2.1; have := HT.out.2.2.2.2.2.2.1; omega) ?_; intro v5_ w5 ho6 hb6 hg6 hat6; have H5 := Aside0.mk (And.intro ho6 (And.intro hb6 hg6)); clear ho6 hb6 hg6 hat6) | fail)
     go_wp2_with fail
     go_roundw
     case rel =>
      refine ⟨i + 1, congrArg (Value.int .i64) HWK.out, ⟨HT.out.2.2.2.2.2.2.1, ?_, ?_, H5.out.2.1⟩⟩
      ·
       rw [HT.out.2.1, H3.out.2.2.2]
       exact listAt_mono (listAt_grow H3.out.1 H3.out.2.1 H5.out.2.2) (by omega)
      ·
       rw [HT.out.2.1, H3.out.2.2.2]; exact H5.out.1
     case measure => rw [HWK.out]; exact Road.leftOf_lt (of_eq_true i2)
  ·
   have i1 := eq_false (show ¬ (i : Int) < (ds.length : Int) by omega)
   have i2 := eq_false (show ¬ i < ds.length by omega)
   have hie : i = ds.length := by have := HI.out.1; omega
   subst hie
   clear hi
   go_wp2_with fail
   refine bodyPost_ret (results_tmp2 rfl _ _ _) rfl ?_
   obtain ⟨-, h2, h3, h4⟩ := HI.out
   rw [List.take_length] at h2 h3
   exact ⟨hb, _, rfl, h2, h3, h4, H1.out.2.2⟩
/-! ### the kinds of deeds, and how many entries there are -/
set_option maxHeartbeats 4000000 in
set_option maxRecDepth 100000 in
theorem kinds_calls (ds : List Dd) (A : Option Addr) (c : Nat) (w : World) (hC : Kd.C kDd w A ds.length ds) (hc : ds.length ≤ c) (hX : GLaid w) (hG : GoodsK [] ds) (hl : ds.length < 100000) :
  Calls Tryd.prog 24 #[.slice A ds.length c] w fun en w' => ∃ vk, en = .returned (.tuple #[vk, .int .i64 ((runK [] ds).1.length : Int)]) ∧ Kd.R (Kd.int .i64) 3 w' w.heap.size (fun _ => True) vk (runK [] ds).2 ∧ Below w.heap.size w w' := by
 have HC := Aside0.mk (list_calls ds A c w hC hc hX hG hl)
 have hlen := runK_len ds []
 have h0 : ([] : List Ent).length = 0 := rfl
 obtain ⟨n, hn⟩ : ∃ n, n = (runK [] ds).1.length := ⟨_, rfl⟩
 have hnb : n ≤ 100000 := by omega
 rw [← hn]
 have HN := Aside0.mk (And.intro hn hnb)
 clear hC hc hX hG hl hlen h0 hn hnb
 go_enter Tryd.func24, Tryd.ntmps24
 go_wp2_with fail
 refine HC.out.mono ?_
 rintro en w1 ⟨hb, vk, rfl, ⟨root, T, hH, hM, hL⟩, hR, hb1, hbb⟩
 rw [← HN.out.1] at hH
 have HCC := Aside0.mk (count_calls w1 hb root (n : Int) hH)
 have H1 := Aside0.mk (And.intro hR (And.intro hb1 (And.intro hbb hH)))
 have e1 : wrap64 (n : Int) = (n : Int) := Road.w64 _ _ rfl (by omega) (by have := HN.out.2; omega)
 have e2 : IntKind.i64.wrap (n : Int) = (n : Int) := Road.wi64 _ _ rfl (by omega) (by have := HN.out.2; omega)
 clear hH hM hL hR hb1 hbb HC
 go_wp2_with fail
 refine HCC.out.mono ?_
 rintro en w2 ⟨rfl, h2, g2⟩
 have hR2 : Kd.R (Kd.int .i64) 3 w2 w.heap.size (fun _ => True) vk (runK [] ds).2 := RI_keep H1.out.1 (ChL.set (B := 0) (Nat.zero_le _) H1.out.2.2.2 rfl g2).typ
 have hb2 : Below w.heap.size w w2 := H1.out.2.1.trans ⟨g2.os, g2.tape, g2.output, g2.size, fun k hk => g2.block k (Nat.lt_of_lt_of_le hk H1.out.2.1.size) (fun f => by injection f with f; have := H1.out.2.2.1; omega)⟩
 have H2 := Aside0.mk (And.intro hR2 hb2)
 clear h2 g2 hR2 hb2 HCC
 go_wp2_with fail
 refine bodyPost_ret (results_tmp2 rfl _ _ _) rfl ?_
 exact ⟨vk, rfl, H2.out.1, H2.out.2⟩
/-! ### who is found: what is called for each value -/
/-- The variable of those that were found. -/
structure CloI (base ob : Nat) (xs : List Int) (w : World) : Prop where
 size : base ≤ w.heap.size
 low : ob < base
 out : ∃ sv, w.heap[ob]? = some (.cells #[sv] 40 (0, 0)) ∧ Kd.R (Kd.int .i64) 3 w base (fun k => base ≤ k) sv xs
structure ClF (base ob : Nat) (w w' : World) : Prop where
 os : w'.os = w.os
 tape : w'.tape = w.tape
 output : w'.output = w.output
 size : w.heap.size ≤ w'.heap.size
 keep : ∀ (k : Nat) (o : Obj), w.heap[k]? = some o → (wl o = true ∨ k < base) → k ≠ ob → w'.heap[k]? = some o
theorem ClF.refl (base ob : Nat) (w : World) : ClF base ob w w := ⟨rfl, rfl, rfl, Nat.le_refl _, fun _ _ h _ _ => h⟩
theorem ClF.trans {base ob : Nat} {a b c : World} (h : ClF base ob a b) (k : ClF base ob b c) : ClF base ob a c :=
 ⟨k.os.trans h.os, k.tape.trans h.tape, k.output.trans h.output, Nat.le_trans h.size k.size, fun i o ho hi hne => k.keep i o (h.keep i o ho hi hne) hi hne⟩
theorem ClF.of_below {base ob : Nat} {a b : World} (h : Below a.heap.size a b) : ClF base ob a b :=
 ⟨h.os, h.tape, h.output, h.size, fun k o ho _ _ => (h.block k (lt_some ho)).trans ho⟩
theorem CloI.below {base ob : Nat} {xs : List Int} {w w' : World} (h : CloI base ob xs w) (hb : Below w.heap.size w w') : CloI base ob xs w' := by
 obtain ⟨h1, h2, sv, h3, h4⟩ := h
 exact ⟨Nat.le_trans h1 hb.size, h2, sv, (hb.block _ (lt_some h3)).trans h3, Kd.R_below h4 hb⟩
def isClo (f : Nat) : Prop := f = 38 ∨ f = 40
set_option maxHeartbeats 16000000 in
set_option maxRecDepth 100000 in
theorem clo1_calls (base ob : Nat) (xs : List Int) (x : Int) (w : World) (hI : CloI base ob xs w) (hl : xs.length < 10000000) :
  Calls Tryd.prog 38 #[.int .i64 x, .pointer (some ⟨ob, 0, none⟩)] w fun en w' => en = .returned (.tuple #[]) ∧ CloI base ob (xs ++ [x]) w' ∧ ClF base ob w w' := by
 obtain ⟨hsz, hlo, sv, hout, hR⟩ := hI
 have k1 : w.cell? ⟨ob, 0, none⟩ = some sv := (cell_of_row w ob 0 _ _ _ hout).trans rfl
 have kz := not_frozen hout 0
 have HB := Aside0.mk (And.intro hsz (And.intro hlo (And.intro hout (And.intro hR hl))))
 clear hsz hlo hout hR hl
 go_enter Tryd.func38, Tryd.ntmps38
 go_wp2_with (first | ((with_reducible refine gate_builtin (b := .append) (xs := #[.tmp 3, .tmp 5]) rfl ?_); at_builtin; refine Kd.R_append (Kd.int .i64) (w0 := w) base rfl (.tmp 3) (.tmp 5) 40 3 (.int .i64 0) 8 rfl Tryd.underlying40 infoI rfl (by decide) (by decide) sv xs x [.int .i64 x] (fun k => base ≤ k) (fun _ => False) rfl rfl rfl (fun _ hk => hk.elim) (fun k hk => Nat.le_trans HB.out.1 hk) HB.out.2.2.2.1 (Below.refl _ w) HB.out.1 (by have := HB.out.2.2.2.2; omega) ?_; intro v1_ w1 ho hb hg hat; obtain ⟨A1, c1, e1⟩ := Kd.R_slice ho; subst e1; have hz1 : w1.frozen? ⟨ob, 0, none⟩ = false := (World.frozen?_of_block (hb.block _ HB.out.2.1)).trans kz; have H1 := Aside0.mk (And.intro ho (And.intro hb hg)); clear ho hb hg hat; have k2 : w1.cell? ⟨ob, 0, none⟩ = some sv := (cell_same (H1.out.2.1.block _ HB.out.2.1) 0).trans k1) | fail)
 go_end0
 obtain ⟨hsz, hlo, hout, hR, hl⟩ := HB.out
 obtain ⟨ho, hb, hg⟩ := H1.out
 have hxl : (xs ++ [x]).length = xs.length + 1 := by rw [List.length_append]; rfl
 rw [hxl] at ho
 have q1 := (hb.block _ hlo).trans hout
 have hg2 := grown_setCell w1 ob 0 (.slice A1 (xs.length + 1) c1)
 have qo : ∀ k, k ≠ ob → (w1.setCell ⟨ob, 0, none⟩ (.slice A1 (xs.length + 1) c1)).heap[k]? = w1.heap[k]? := fun k hk => Road.setCell_other_heap w1 0 _ (Ne.symm hk)
 refine ⟨rfl, ⟨Nat.le_trans hsz (Nat.le_trans hb.size hg2.size), hlo, _, Road.setCell_same_heap 0 _ q1, Kd.R_step ho (fun k hk _ => qo k (by omega))⟩, hg2.os.trans hb.os, hg2.tape.trans hb.tape, hg2.output.trans hb.output, Nat.le_trans hb.size hg2.size, fun k o ho' hk hne => ?_⟩
 rw [qo k hne]
 rcases hk with hk | hk
 ·
  rw [hg.block k (lt_some ho') (fun e => ?_)]
  ·
   exact ho'
  ·
   obtain ⟨inner, hown⟩ := Kd.R_own hR
   obtain ⟨cells, hc⟩ := own_typed hown k e.symm
   rw [hc] at ho'
   injection ho' with ho'
   rw [← ho'] at hk
   exact absurd hk (by simp [wl])
 ·
  exact (hb.block k hk).trans ho'
set_option maxHeartbeats 16000000 in
set_option maxRecDepth 100000 in
theorem clo2_calls (base ob : Nat) (xs : List Int) (x : Int) (w : World) (hI : CloI base ob xs w) (hl : xs.length < 10000000) :
  Calls Tryd.prog 40 #[.int .i64 x, .pointer (some ⟨ob, 0, none⟩)] w fun en w' => en = .returned (.tuple #[]) ∧ CloI base ob (xs ++ [x]) w' ∧ ClF base ob w w' := by
 obtain ⟨hsz, hlo, sv, hout, hR⟩ := hI
 have k1 : w.cell? ⟨ob, 0, none⟩ = some sv := (cell_of_row w ob 0 _ _ _ hout).trans rfl
 have kz := not_frozen hout 0
 have HB := Aside0.mk (And.intro hsz (And.intro hlo (And.intro hout (And.intro hR hl))))
 clear hsz hlo hout hR hl
 go_enter Tryd.func40, Tryd.ntmps40
 go_wp2_with (first | ((with_reducible refine gate_builtin (b := .append) (xs := #[.tmp 3, .tmp 5]) rfl ?_); at_builtin; refine Kd.R_append (Kd.int .i64) (w0 := w) base rfl (.tmp 3) (.tmp 5) 40 3 (.int .i64 0) 8 rfl Tryd.underlying40 infoI rfl (by decide) (by decide) sv xs x [.int .i64 x] (fun k => base ≤ k) (fun _ => False) rfl rfl rfl (fun _ hk => hk.elim) (fun k hk => Nat.le_trans HB.out.1 hk) HB.out.2.2.2.1 (Below.refl _ w) HB.out.1 (by have := HB.out.2.2.2.2; omega) ?_; intro v1_ w1 ho hb hg hat; obtain ⟨A1, c1, e1⟩ := Kd.R_slice ho; subst e1; have hz1 : w1.frozen? ⟨ob, 0, none⟩ = false := (World.frozen?_of_block (hb.block _ HB.out.2.1)).trans kz; have H1 := Aside0.mk (And.intro ho (And.intro hb hg)); clear ho hb hg hat; have k2 : w1.cell? ⟨ob, 0, none⟩ = some sv := (cell_same (H1.out.2.1.block _ HB.out.2.1) 0).trans k1) | fail)
 go_end0
 obtain ⟨hsz, hlo, hout, hR, hl⟩ := HB.out
 obtain ⟨ho, hb, hg⟩ := H1.out
 have hxl : (xs ++ [x]).length = xs.length + 1 := by rw [List.length_append]; rfl
 rw [hxl] at ho
 have q1 := (hb.block _ hlo).trans hout
 have hg2 := grown_setCell w1 ob 0 (.slice A1 (xs.length + 1) c1)
 have qo : ∀ k, k ≠ ob → (w1.setCell ⟨ob, 0, none⟩ (.slice A1 (xs.length + 1) c1)).heap[k]? = w1.heap[k]? := fun k hk => Road.setCell_other_heap w1 0 _ (Ne.symm hk)
 refine ⟨rfl, ⟨Nat.le_trans hsz (Nat.le_trans hb.size hg2.size), hlo, _, Road.setCell_same_heap 0 _ q1, Kd.R_step ho (fun k hk _ => qo k (by omega))⟩, hg2.os.trans hb.os, hg2.tape.trans hb.tape, hg2.output.trans hb.output, Nat.le_trans hb.size hg2.size, fun k o ho' hk hne => ?_⟩
 rw [qo k hne]
 rcases hk with hk | hk
 ·
  rw [hg.block k (lt_some ho') (fun e => ?_)]
  ·
   exact ho'
  ·
   obtain ⟨inner, hown⟩ := Kd.R_own hR
   obtain ⟨cells, hc⟩ := own_typed hown k e.symm
   rw [hc] at ho'
   injection ho' with ho'
   rw [← ho'] at hk
   exact absurd hk (by simp [wl])
 ·
  exact (hb.block k hk).trans ho'
theorem clo_calls (f : Nat) (hf : isClo f) (base ob : Nat) (xs : List Int) (x : Int) (w : World) (hI : CloI base ob xs w) (hl : xs.length < 10000000) :
  Calls Tryd.prog f #[.int .i64 x, .pointer (some ⟨ob, 0, none⟩)] w fun en w' => en = .returned (.tuple #[]) ∧ CloI base ob (xs ++ [x]) w' ∧ ClF base ob w w' := by
 rcases hf with rfl | rfl
 ·
  exact clo1_calls base ob xs x w hI hl
 ·
  exact clo2_calls base ob xs x w hI hl
/-! ### the values at a place -/
def vals (E : List Ent) (p : Path) : List Int := (E.filter (fun e => decide (TK e.1 = p))).map (·.2)
theorem mem_vals {E : List Ent} {p : Path} {v : Int} : v ∈ vals E p ↔ ∃ s, (s, v) ∈ E ∧ TK s = p := by
 unfold vals
 rw [List.mem_map]
 constructor
 ·
  rintro ⟨e, he, rfl⟩
  obtain ⟨h1, h2⟩ := List.mem_filter.1 he
  exact ⟨e.1, h1, of_decide_eq_true h2⟩
 ·
  rintro ⟨s, h1, h2⟩
  exact ⟨(s, v), List.mem_filter.2 ⟨h1, decide_eq_true h2⟩, rfl⟩
theorem nodup_map_on {α β : Type} {f : α → β} {l : List α} (h : l.Nodup) (hf : ∀ a ∈ l, ∀ b ∈ l, f a = f b → a = b) : (l.map f).Nodup := by
 refine List.pairwise_map.2 (List.Pairwise.imp_of_mem (fun {a b} ha hb hne e => hne (hf a ha b hb e)) h)
theorem nodup_vals {E : List Ent} (h : E.Nodup) (p : Path) : (vals E p).Nodup := by
 unfold vals
 refine nodup_map_on (h.sublist List.filter_sublist) (fun a ha b hb e => ?_)
 have h1 := of_decide_eq_true (List.mem_filter.1 ha).2
 have h2 := of_decide_eq_true (List.mem_filter.1 hb).2
 exact Prod.ext (TK_inj (h1.trans h2.symm)) e
theorem ranges_keep {P : Program} {k : TypeId} {R : Value → Option (DataW Unit × List MemPlace)} {w w' : World} {m r n cnt : Nat} {D : DataW Unit} {left : Lit → Bool} (h : w.ranges P k R m r n D left cnt) (hm : w'.heap[m]? = w.heap[m]?) (hr : w'.heap[r]? = w.heap[r]?) : w'.ranges P k R m r n D left cnt := by
 obtain ⟨es, clock, since, seen, c0, h1, h2, h3, h4, h5, h6⟩ := h
 exact ⟨es, clock, since, seen, c0, hm.trans h1, h2, h3, h4, hr.trans h5, h6⟩
theorem ranges_objs {P : Program} {k : TypeId} {R : Value → Option (DataW Unit × List MemPlace)} {w : World} {m r n cnt : Nat} {D : DataW Unit} {left : Lit → Bool} (h : w.ranges P k R m r n D left cnt) : (∃ o, w.heap[r]? = some o ∧ wl o = true ∧ ∀ c T f, o ≠ .cells c T f) ∧ ∃ o, w.heap[m]? = some o ∧ wl o = true ∧ ∀ c T f, o ≠ .cells c T f := by
 obtain ⟨es, clock, since, seen, c0, h1, h2, h3, h4, h5, h6⟩ := h
 exact ⟨⟨_, h5, rfl, fun _ _ _ e => by injection e⟩, ⟨_, h1, rfl, fun _ _ _ e => by injection e⟩⟩
structure CbI (N base ob m r : Nat) (D : DataW Unit) (xs : List Int) (w : World) (left : Lit → Bool) (cnt : Nat) (ys : List Int) (wr : World) : Prop where
 rng : wr.ranges Tryd.prog 3 (plainElem Tryd.prog 9) m r N D left cnt
 clo : CloI base ob (xs ++ ys) wr
 fr : ClF base ob w wr
 nd : ys.Nodup
 mem : ∀ v, okI v → (v ∈ ys ↔ Maps.has D (kI v) = true ∧ left (kI v) = false)
 ok : ∀ v ∈ ys, okI v
/-- Some of these values are put behind those that were found. -/
def CbQ (base ob : Nat) (xs zs : List Int) (w : World) (en : Ending) (w' : World) : Prop := ∃ ys, en = .returned (.tuple #[]) ∧ ys.Perm zs ∧ CloI base ob (xs ++ ys) w' ∧ ClF base ob w w'
set_option maxHeartbeats 16000000 in
set_option maxRecDepth 100000 in
theorem cb1_calls (N B base ob : Nat) (T : Trie) (E : List Ent) (p : Path) (q : Rc) (xs : List Int) (w : World) (h : MemT TK N w B T E) (hnd : E.Nodup) (hoE : ∀ e ∈ E, okI e.2) (hq : T.nd p = some q) (hI : CloI base ob xs w) (hl : xs.length + E.length < 10000000) :
  Calls Tryd.prog 84 #[.pointer (some ⟨q.b, 0, none⟩), .func (.func 38) #[] #[.pointer (some ⟨ob, 0, none⟩)]] w fun en w' => CbQ base ob xs (vals E p) w en w' := by
 obtain ⟨k1, k2, k3, D, hown, hDL⟩ := h.nod p q hq
 have c1 : w.cell? ⟨q.b, 1, none⟩ = some (.map (some q.m)) := (cell_of_row w q.b 1 _ _ _ k3).trans rfl
 have hob : ∃ sv, w.heap[ob]? = some (.cells #[sv] 40 (0, 0)) := by obtain ⟨_, _, sv, h1, _⟩ := hI; exact ⟨sv, h1⟩
 have HH := Aside0.mk (And.intro hnd (And.intro hoE (And.intro hDL (And.intro hI (And.intro hl (And.intro hown hob))))))
 have hqm := (h.ndlt hq).2
 clear h hnd hoE hq k1 k2 k3 hDL hI hl hob
 go_enter Tryd.func84, Tryd.ntmps84
 go_wp2_with (first | (at_range; refine wpList_range_own _ rfl _ 101 rfl 3 9 lawI Tryd.underlying101 _ q.m N D rfl hown ?_; intro w1 hrg0 hg0 hs1) | go_in)
 go_frame
 obtain ⟨r, hr⟩ : ∃ r, r = w.heap.size := ⟨_, rfl⟩
 rw [← hr] at hrg0 ⊢
 have hbl : Below w.heap.size w w1 := ⟨hg0.os, hg0.tape, hg0.output, hg0.size, fun k hk => hg0.block k hk (by simp)⟩
 have HI0 := Aside0.mk (show CbI N base ob q.m r D xs w (Maps.has D) (Maps.size D) [] w1 from ⟨hrg0, by rw [List.append_nil]; exact HH.out.2.2.2.1.below hbl, ClF.of_below hbl, List.nodup_nil, fun v _ => ⟨fun g => by simp at g, fun g => by rw [g.1] at g; exact absurd g.2 (by simp)⟩, fun v g => by simp at g⟩)
 have HR := Aside0.mk (And.intro hr hqm)
 clear hrg0 hg0 hs1 hr hbl hown c1 hqm
 go_loopw [] (fun wx => ∃ (left : Lit → Bool) (cnt : Nat) (ys : List Int), Aside0 (CbI N base ob q.m r D xs w left cnt ys wx)) (fun wx => wx.rangeLeft q.m r)
 case atStart => exact ⟨_, _, [], HI0⟩
 case round =>
  obtain ⟨left, cnt, ys, HI5⟩ := hrel
  clear HI0
  have hrgI := HI5.out.rng
  have hyE : ys.length ≤ E.length := by
   have h1 : ∀ v ∈ ys, v ∈ E.map (·.2) := fun v hv => by
    have := ((HI5.out.mem v (HI5.out.ok v hv)).1 hv).1
    obtain ⟨d, s, h2, _, _⟩ := (HH.out.2.2.1.1 v (HI5.out.ok v hv)).1 this
    exact List.mem_map.2 ⟨(s, v), h2, rfl⟩
   have := HI5.out.nd.length_le_of_subset h1
   rwa [List.length_map] at this
  have HYE := Aside0.mk hyE
  clear hyE
  go_wp2_with (first | (at_next; refine wpList_next_ranges_is _ rfl _ rfl 3 9 .i64 lawI Tryd.underlying3 Tryd.underlying9 q.m r N _ _ _ rfl hrgI ?_ ?_) | fail)
  ·
   intro hc0 hl0
   have HL0 := Aside0.mk hl0
   clear hc0 hl0 hrgI
   go_wp2_with fail
   go_end0
   refine ⟨ys, rfl, ?_, HI5.out.clo, HI5.out.fr⟩
   refine (List.perm_ext_iff_of_nodup HI5.out.nd (nodup_vals HH.out.1 p)).2 (fun v => ?_)
   rw [mem_vals]
   constructor
   ·
    intro hv
    obtain ⟨d, s, h2, h3, _⟩ := (HH.out.2.2.1.1 v (HI5.out.ok v hv)).1 ((HI5.out.mem v (HI5.out.ok v hv)).1 hv).1
    exact ⟨s, h2, h3⟩
   ·
    rintro ⟨s, h2, h3⟩
    have hov : okI v := HH.out.2.1 _ h2
    exact (HI5.out.mem v hov).2 ⟨(HH.out.2.2.1.1 v hov).2 ⟨sl s, s, h2, h3, rfl⟩, HL0.out _⟩
  ·
   intro x c w5 cnt1 hwx hwc hlx hat hrg1 hlt hg1 hs1 hen
   have hox : okI x := hwx
   have hhas : Maps.has D (kI x) = true := Maps.has_true_of_atKey hat
   have hrne : ob ≠ r := by
    intro e
    obtain ⟨⟨o, ho, _, hnc⟩, _⟩ := ranges_objs hrgI
    obtain ⟨_, _, sv, h1, _⟩ := HI5.out.clo
    rw [e, ho] at h1
    exact hnc _ _ _ (Option.some.inj h1)
   have hnew : x ∉ ys := fun g => by
    have := ((HI5.out.mem x hox).1 g).2
    rw [show left (kI x) = true from hlx] at this
    exact absurd this (by simp)
   have hrb : base ≤ r := by rw [HR.out.1]; exact HH.out.2.2.2.1.size
   have hc5 : CloI base ob (xs ++ ys) w5 := by
    obtain ⟨h1, h2, sv, h3, h4⟩ := HI5.out.clo
    refine ⟨by rw [hs1]; exact h1, h2, sv, (hg1.block _ (lt_some h3) (fun e => hrne (by injection e))).trans h3, Kd.R_mono (Kd.R_move (Kd.R_bound h4) (fun k hk => hg1.block k hk.2.2.1 (fun e => ?_))) (fun _ g => g.1)⟩
    injection e with e
    subst e
    obtain ⟨_, _, _, q', _, cells, hcc⟩ := hk
    obtain ⟨⟨o, ho, _, hnc⟩, _⟩ := ranges_objs hrgI
    rw [ho] at hcc
    exact hnc _ _ _ (Option.some.inj hcc)
   have hf5 : ClF base ob w w5 := ⟨hg1.os.trans HI5.out.fr.os, hg1.tape.trans HI5.out.fr.tape, hg1.output.trans HI5.out.fr.output, Nat.le_trans HI5.out.fr.size hg1.size, fun k o ho hk hne => by
    have h1 := HI5.out.fr.keep k o ho hk hne
    exact (hg1.block k (lt_some h1) (fun e => by
     injection e with e
     have := lt_some ho
     have := HR.out.1
     omega)).trans h1⟩
   have hmb : ob ≠ q.m := by
    intro e
    obtain ⟨_, ⟨o, ho, _, hnc⟩⟩ := ranges_objs hrgI
    obtain ⟨_, _, sv, h1, _⟩ := HI5.out.clo
    rw [e, ho] at h1
    exact hnc _ _ _ (Option.some.inj h1)
   have HCL := Aside0.mk (clo1_calls base ob (xs ++ ys) x w5 hc5 (by rw [List.length_append]; have := HH.out.2.2.2.2.1; have := HYE.out; omega))
   have H5 := Aside0.mk (And.intro hf5 (And.intro hrg1 (And.intro hhas (And.intro hnew (And.intro hox (And.intro hlx (And.intro hrne hmb)))))))
   have HLT := Aside0.mk (And.intro hlt (hrgI.left_eq))
   clear hwx hwc hlx hat hrg1 hlt hg1 hs1 hox hhas hrne hmb hnew hrb hc5 hf5 hrgI
   go_wp2_with fail
   refine HCL.out.mono ?_
   rintro en w6 ⟨rfl, hc6, hf6⟩
   have hrg6 := ranges_keep H5.out.2.1 (by
    obtain ⟨_, o, ho, hk, _⟩ := ranges_objs H5.out.2.1
    exact (hf6.keep _ o ho (.inl hk) (Ne.symm H5.out.2.2.2.2.2.2.2)).trans ho.symm) (by
    obtain ⟨⟨o, ho, hk, _⟩, _⟩ := ranges_objs H5.out.2.1
    exact (hf6.keep _ o ho (.inl hk) (Ne.symm H5.out.2.2.2.2.2.2.1)).trans ho.symm)
   have H6 := Aside0.mk (And.intro hc6 (And.intro (H5.out.1.trans hf6) hrg6))
   clear hc6 hf6 hrg6 HCL
   go_wp2_with fail
   go_roundw
   case rel =>
    obtain ⟨hc6, hf6, hrg6⟩ := H6.out
    obtain ⟨-, -, hhas, hnew, hox, hlx, -, -⟩ := H5.out
    refine ⟨_, _, ys ++ [x], ⟨hrg6, by rw [← List.append_assoc]; exact hc6, hf6, ?_, fun v hv => ?_, fun v hv => ?_⟩⟩
    ·
     rw [List.nodup_append]
     refine ⟨HI5.out.nd, (List.pairwise_singleton _ _), fun a ha b hb e => ?_⟩
     rw [List.mem_singleton.1 hb] at e
     exact hnew (e ▸ ha)
    ·
     rw [List.mem_append, List.mem_singleton]
     constructor
     ·
      rintro (g | rfl)
      ·
       obtain ⟨g1, g2⟩ := (HI5.out.mem v hv).1 g
       exact ⟨g1, by rw [g2]; rfl⟩
      ·
       exact ⟨hhas, by show (left (kI v) && !(kI v).sameKey (kI v)) = false; rw [WideAt.sameKey_self (show WideAt.IsKeyLit (kI v) from trivial)]; simp⟩
     ·
      rintro ⟨g1, g2⟩
      by_cases c : v = x
      ·
       exact .inr c
      ·
       left
       refine (HI5.out.mem v hv).2 ⟨g1, ?_⟩
       have : (kI v).sameKey (Lit.int .i64 x) = false := by
        cases hs : (kI v).sameKey (Lit.int .i64 x) with
        | false => rfl
        | true => exact absurd (WideAt.sameKey_eq hs) (kI_ne c)
       rw [this] at g2
       simpa using g2
    ·
     rcases List.mem_append.1 hv with g | g
     ·
      exact HI5.out.ok v g
     ·
      rw [List.mem_singleton.1 g]; exact hox
   case measure =>
    rw [H6.out.2.2.left_eq, HLT.out.2]
    exact HLT.out.1
set_option maxHeartbeats 16000000 in
set_option maxRecDepth 100000 in
theorem cb2_calls (N B base ob : Nat) (T : Trie) (E : List Ent) (p : Path) (q : Rc) (xs : List Int) (w : World) (h : MemT TK N w B T E) (hnd : E.Nodup) (hoE : ∀ e ∈ E, okI e.2) (hq : T.nd p = some q) (hI : CloI base ob xs w) (hl : xs.length + E.length < 10000000) :
  Calls Tryd.prog 84 #[.pointer (some ⟨q.b, 0, none⟩), .func (.func 40) #[] #[.pointer (some ⟨ob, 0, none⟩)]] w fun en w' => CbQ base ob xs (vals E p) w en w' := by
 obtain ⟨k1, k2, k3, D, hown, hDL⟩ := h.nod p q hq
 have c1 : w.cell? ⟨q.b, 1, none⟩ = some (.map (some q.m)) := (cell_of_row w q.b 1 _ _ _ k3).trans rfl
 have hob : ∃ sv, w.heap[ob]? = some (.cells #[sv] 40 (0, 0)) := by obtain ⟨_, _, sv, h1, _⟩ := hI; exact ⟨sv, h1⟩
 have HH := Aside0.mk (And.intro hnd (And.intro hoE (And.intro hDL (And.intro hI (And.intro hl (And.intro hown hob))))))
 have hqm := (h.ndlt hq).2
 clear h hnd hoE hq k1 k2 k3 hDL hI hl hob
 go_enter Tryd.func84, Tryd.ntmps84
 go_wp2_with (first | (at_range; refine wpList_range_own _ rfl _ 101 rfl 3 9 lawI Tryd.underlying101 _ q.m N D rfl hown ?_; intro w1 hrg0 hg0 hs1) | go_in)
 go_frame
 obtain ⟨r, hr⟩ : ∃ r, r = w.heap.size := ⟨_, rfl⟩
 rw [← hr] at hrg0 ⊢
 have hbl : Below w.heap.size w w1 := ⟨hg0.os, hg0.tape, hg0.output, hg0.size, fun k hk => hg0.block k hk (by simp)⟩
 have HI0 := Aside0.mk (show CbI N base ob q.m r D xs w (Maps.has D) (Maps.size D) [] w1 from ⟨hrg0, by rw [List.append_nil]; exact HH.out.2.2.2.1.below hbl, ClF.of_below hbl, List.nodup_nil, fun v _ => ⟨fun g => by simp at g, fun g => by rw [g.1] at g; exact absurd g.2 (by simp)⟩, fun v g => by simp at g⟩)
 have HR := Aside0.mk (And.intro hr hqm)
 clear hrg0 hg0 hs1 hr hbl hown c1 hqm
 go_loopw [] (fun wx => ∃ (left : Lit → Bool) (cnt : Nat) (ys : List Int), Aside0 (CbI N base ob q.m r D xs w left cnt ys wx)) (fun wx => wx.rangeLeft q.m r)
 case atStart => exact ⟨_, _, [], HI0⟩
 case round =>
  obtain ⟨left, cnt, ys, HI5⟩ := hrel
  clear HI0
  have hrgI := HI5.out.rng
  have hyE : ys.length ≤ E.length := by
   have h1 : ∀ v ∈ ys, v ∈ E.map (·.2) := fun v hv => by
    have := ((HI5.out.mem v (HI5.out.ok v hv)).1 hv).1
    obtain ⟨d, s, h2, _, _⟩ := (HH.out.2.2.1.1 v (HI5.out.ok v hv)).1 this
    exact List.mem_map.2 ⟨(s, v), h2, rfl⟩
   have := HI5.out.nd.length_le_of_subset h1
   rwa [List.length_map] at this
  have HYE := Aside0.mk hyE
  clear hyE
  go_wp2_with (first | (at_next; refine wpList_next_ranges_is _ rfl _ rfl 3 9 .i64 lawI Tryd.underlying3 Tryd.underlying9 q.m r N _ _ _ rfl hrgI ?_ ?_) | fail)
  ·
   intro hc0 hl0
   have HL0 := Aside0.mk hl0
   clear hc0 hl0 hrgI
   go_wp2_with fail
   go_end0
   refine ⟨ys, rfl, ?_, HI5.out.clo, HI5.out.fr⟩
   refine (List.perm_ext_iff_of_nodup HI5.out.nd (nodup_vals HH.out.1 p)).2 (fun v => ?_)
   rw [mem_vals]
   constructor
   ·
    intro hv
    obtain ⟨d, s, h2, h3, _⟩ := (HH.out.2.2.1.1 v (HI5.out.ok v hv)).1 ((HI5.out.mem v (HI5.out.ok v hv)).1 hv).1
    exact ⟨s, h2, h3⟩
   ·
    rintro ⟨s, h2, h3⟩
    have hov : okI v := HH.out.2.1 _ h2
    exact (HI5.out.mem v hov).2 ⟨(HH.out.2.2.1.1 v hov).2 ⟨sl s, s, h2, h3, rfl⟩, HL0.out _⟩
  ·
   intro x c w5 cnt1 hwx hwc hlx hat hrg1 hlt hg1 hs1 hen
   have hox : okI x := hwx
   have hhas : Maps.has D (kI x) = true := Maps.has_true_of_atKey hat
   have hrne : ob ≠ r := by
    intro e
    obtain ⟨⟨o, ho, _, hnc⟩, _⟩ := ranges_objs hrgI
    obtain ⟨_, _, sv, h1, _⟩ := HI5.out.clo
    rw [e, ho] at h1
    exact hnc _ _ _ (Option.some.inj h1)
   have hnew : x ∉ ys := fun g => by
    have := ((HI5.out.mem x hox).1 g).2
    rw [show left (kI x) = true from hlx] at this
    exact absurd this (by simp)
   have hrb : base ≤ r := by rw [HR.out.1]; exact HH.out.2.2.2.1.size
   have hc5 : CloI base ob (xs ++ ys) w5 := by
    obtain ⟨h1, h2, sv, h3, h4⟩ := HI5.out.clo
    refine ⟨by rw [hs1]; exact h1, h2, sv, (hg1.block _ (lt_some h3) (fun e => hrne (by injection e))).trans h3, Kd.R_mono (Kd.R_move (Kd.R_bound h4) (fun k hk => hg1.block k hk.2.2.1 (fun e => ?_))) (fun _ g => g.1)⟩
    injection e with e
    subst e
    obtain ⟨_, _, _, q', _, cells, hcc⟩ := hk
    obtain ⟨⟨o, ho, _, hnc⟩, _⟩ := ranges_objs hrgI
    rw [ho] at hcc
    exact hnc _ _ _ (Option.some.inj hcc)
   have hf5 : ClF base ob w w5 := ⟨hg1.os.trans HI5.out.fr.os, hg1.tape.trans HI5.out.fr.tape, hg1.output.trans HI5.out.fr.output, Nat.le_trans HI5.out.fr.size hg1.size, fun k o ho hk hne => by
    have h1 := HI5.out.fr.keep k o ho hk hne
    exact (hg1.block k (lt_some h1) (fun e => by
     injection e with e
     have := lt_some ho
     have := HR.out.1
     omega)).trans h1⟩
   have hmb : ob ≠ q.m := by
    intro e
    obtain ⟨_, ⟨o, ho, _, hnc⟩⟩ := ranges_objs hrgI
    obtain ⟨_, _, sv, h1, _⟩ := HI5.out.clo
    rw [e, ho] at h1
    exact hnc _ _ _ (Option.some.inj h1)
   have HCL := Aside0.mk (clo2_calls base ob (xs ++ ys) x w5 hc5 (by rw [List.length_append]; have := HH.out.2.2.2.2.1; have := HYE.out; omega))
   have H5 := Aside0.mk (And.intro hf5 (And.intro hrg1 (And.intro hhas (And.intro hnew (And.intro hox (And.intro hlx (And.intro hrne hmb)))))))
   have HLT := Aside0.mk (And.intro hlt (hrgI.left_eq))
   clear hwx hwc hlx hat hrg1 hlt hg1 hs1 hox hhas hrne hmb hnew hrb hc5 hf5 hrgI
   go_wp2_with fail
   refine HCL.out.mono ?_
   rintro en w6 ⟨rfl, hc6, hf6⟩
   have hrg6 := ranges_keep H5.out.2.1 (by
    obtain ⟨_, o, ho, hk, _⟩ := ranges_objs H5.out.2.1
    exact (hf6.keep _ o ho (.inl hk) (Ne.symm H5.out.2.2.2.2.2.2.2)).trans ho.symm) (by
    obtain ⟨⟨o, ho, hk, _⟩, _⟩ := ranges_objs H5.out.2.1
    exact (hf6.keep _ o ho (.inl hk) (Ne.symm H5.out.2.2.2.2.2.2.1)).trans ho.symm)
   have H6 := Aside0.mk (And.intro hc6 (And.intro (H5.out.1.trans hf6) hrg6))
   clear hc6 hf6 hrg6 HCL
   go_wp2_with fail
   go_roundw
   case rel =>
    obtain ⟨hc6, hf6, hrg6⟩ := H6.out
    obtain ⟨-, -, hhas, hnew, hox, hlx, -, -⟩ := H5.out
    refine ⟨_, _, ys ++ [x], ⟨hrg6, by rw [← List.append_assoc]; exact hc6, hf6, ?_, fun v hv => ?_, fun v hv => ?_⟩⟩
    ·
     rw [List.nodup_append]
     refine ⟨HI5.out.nd, (List.pairwise_singleton _ _), fun a ha b hb e => ?_⟩
     rw [List.mem_singleton.1 hb] at e
     exact hnew (e ▸ ha)
    ·
     rw [List.mem_append, List.mem_singleton]
     constructor
     ·
      rintro (g | rfl)
      ·
       obtain ⟨g1, g2⟩ := (HI5.out.mem v hv).1 g
       exact ⟨g1, by rw [g2]; rfl⟩
      ·
       exact ⟨hhas, by show (left (kI v) && !(kI v).sameKey (kI v)) = false; rw [WideAt.sameKey_self (show WideAt.IsKeyLit (kI v) from trivial)]; simp⟩
     ·
      rintro ⟨g1, g2⟩
      by_cases c : v = x
      ·
       exact .inr c
      ·
       left
       refine (HI5.out.mem v hv).2 ⟨g1, ?_⟩
       have : (kI v).sameKey (Lit.int .i64 x) = false := by
        cases hs : (kI v).sameKey (Lit.int .i64 x) with
        | false => rfl
        | true => exact absurd (WideAt.sameKey_eq hs) (kI_ne c)
       rw [this] at g2
       simpa using g2
    ·
     rcases List.mem_append.1 hv with g | g
     ·
      exact HI5.out.ok v g
     ·
      rw [List.mem_singleton.1 g]; exact hox
   case measure =>
    rw [H6.out.2.2.left_eq, HLT.out.2]
    exact HLT.out.1
theorem cb_calls (f : Nat) (hf : isClo f) (N B base ob : Nat) (T : Trie) (E : List Ent) (p : Path) (q : Rc) (xs : List Int) (w : World) (h : MemT TK N w B T E) (hnd : E.Nodup) (hoE : ∀ e ∈ E, okI e.2) (hq : T.nd p = some q) (hI : CloI base ob xs w) (hl : xs.length + E.length < 10000000) :
  Calls Tryd.prog 84 #[.pointer (some ⟨q.b, 0, none⟩), .func (.func f) #[] #[.pointer (some ⟨ob, 0, none⟩)]] w fun en w' => CbQ base ob xs (vals E p) w en w' := by
 rcases hf with rfl | rfl
 ·
  exact cb1_calls N B base ob T E p q xs w h hnd hoE hq hI hl
 ·
  exact cb2_calls N B base ob T E p q xs w h hnd hoE hq hI hl
/-! ### the way of a subject through the levels, in plain Lean -/
def mvL (E : List Ent) : Path → Path → List Int
 | _, [] => []
 | p, t :: ts => vals E (p ++ [gts]) ++ mvL E (p ++ [star]) ts ++ (if ts.length = 0 then vals E (p ++ [t]) ++ vals E (p ++ [star]) else mvL E (p ++ [t]) ts)
def mr : Path → Path → Bool
 | [], q => decide (q = [])
 | _ :: _, [] => false
 | t :: ts, u :: q => (decide (u = gts) && decide (q = [])) || (decide (u = star) && mr ts q) || (decide (u = t) && mr ts q)
def selE (E : List Ent) (p ts : Path) : List Int := (E.filter (fun e => decide (p <+: TK e.1) && mr ts ((TK e.1).drop p.length))).map (·.2)
def Lit0 (ts : Path) : Prop := ∀ t ∈ ts, t ≠ star ∧ t ≠ gts
theorem filter_or_perm {α : Type} (l : List α) (a b : α → Bool) (h : ∀ x, ¬ (a x = true ∧ b x = true)) : (l.filter (fun x => a x || b x)).Perm (l.filter a ++ l.filter b) := by
 induction l with
 | nil => exact List.Perm.refl _
 | cons x l ih =>
  rw [List.filter_cons, List.filter_cons, List.filter_cons]
  cases ha : a x with
  | true =>
   have hb : b x = false := by cases hb : b x with | false => rfl | true => exact absurd ⟨ha, hb⟩ (h x)
   rw [hb]
   simpa using ih
  | false =>
   cases hb : b x with
   | true =>
    simp only [Bool.false_or, if_true]
    rw [if_neg (by simp)]
    exact (ih.cons x).trans List.perm_middle.symm
   | false => simpa using ih
theorem pre_snoc {p l : Path} {u : ByteArray} : p ++ [u] <+: l ↔ p <+: l ∧ ∃ q, l.drop p.length = u :: q := by
 constructor
 ·
  rintro ⟨q, rfl⟩
  refine ⟨by rw [List.append_assoc]; exact List.prefix_append _ _, q, by rw [List.append_assoc, List.drop_left]; rfl⟩
 ·
  rintro ⟨⟨r, rfl⟩, q, hq⟩
  rw [List.drop_left] at hq
  subst hq
  exact ⟨q, by rw [List.append_assoc]; rfl⟩
theorem vals_sel (E : List Ent) (p : Path) (u : ByteArray) : vals E (p ++ [u]) = selE E (p ++ [u]) [] := by
 unfold vals selE
 congr 1
 refine List.filter_congr (fun e _ => ?_)
 apply Bool.eq_iff_iff.2
 rw [decide_eq_true_eq, Bool.and_eq_true, decide_eq_true_eq]
 show _ ↔ _ ∧ decide (_ = []) = true
 rw [decide_eq_true_eq]
 constructor
 ·
  intro h
  rw [h]
  exact ⟨List.prefix_refl _, List.drop_length⟩
 ·
  rintro ⟨⟨q, h1⟩, h2⟩
  rw [← h1, List.drop_left] at h2
  rw [← h1, h2, List.append_nil]
theorem sel_cons (E : List Ent) (p : Path) (t : ByteArray) (ts : Path) (h1 : t ≠ star) (h2 : t ≠ gts) : (selE E p (t :: ts)).Perm (vals E (p ++ [gts]) ++ selE E (p ++ [star]) ts ++ selE E (p ++ [t]) ts) := by
 rw [vals_sel]
 unfold selE
 rw [← List.map_append, ← List.map_append]
 refine List.Perm.map _ ?_
 have e0 : ∀ e : Ent, (decide (p <+: TK e.1) && mr (t :: ts) ((TK e.1).drop p.length)) = ((decide (p ++ [gts] <+: TK e.1) && mr [] ((TK e.1).drop (p ++ [gts]).length)) || (decide (p ++ [star] <+: TK e.1) && mr ts ((TK e.1).drop (p ++ [star]).length)) || (decide (p ++ [t] <+: TK e.1) && mr ts ((TK e.1).drop (p ++ [t]).length))) := fun e => by
  have hd : ∀ u, (TK e.1).drop (p ++ [u]).length = ((TK e.1).drop p.length).drop 1 := fun u => by rw [List.length_append, List.length_singleton, List.drop_drop]
  rw [hd, hd, hd]
  by_cases hp : p <+: TK e.1
  ·
   cases hq : (TK e.1).drop p.length with
   | nil =>
    have hn : ∀ u, decide (p ++ [u] <+: TK e.1) = false := fun u => decide_eq_false (fun h => by
     obtain ⟨_, q, h⟩ := pre_snoc.1 h
     rw [hq] at h
     exact absurd h (by simp))
    rw [hn, hn, hn]
    simp [mr]
   | cons u q =>
    have hu : ∀ x, decide (p ++ [x] <+: TK e.1) = decide (u = x) := fun x => by
     apply Bool.eq_iff_iff.2
     rw [decide_eq_true_eq, decide_eq_true_eq, pre_snoc, hq]
     exact ⟨fun ⟨_, q', h⟩ => by injection h, fun h => ⟨hp, q, by rw [h]⟩⟩
    rw [hu, hu, hu, decide_eq_true hp, List.drop_succ_cons, List.drop_zero, Bool.true_and]
    rfl
  ·
   have hn : ∀ u, decide (p ++ [u] <+: TK e.1) = false := fun u => decide_eq_false (fun h => hp (pre_snoc.1 h).1)
   rw [hn, hn, hn, decide_eq_false hp]
   rfl
 have hx : ∀ (e : Ent) (a b : ByteArray), a ≠ b → ¬ (p ++ [a] <+: TK e.1 ∧ p ++ [b] <+: TK e.1) := fun e a b hne ⟨g1, g2⟩ => by
  obtain ⟨_, q1, k1⟩ := pre_snoc.1 g1
  obtain ⟨_, q2, k2⟩ := pre_snoc.1 g2
  rw [k1] at k2
  injection k2 with k2
  exact hne k2
 rw [List.filter_congr (fun e _ => e0 e)]
 refine (filter_or_perm E (fun e => (decide (p ++ [gts] <+: TK e.1) && mr [] ((TK e.1).drop (p ++ [gts]).length)) || (decide (p ++ [star] <+: TK e.1) && mr ts ((TK e.1).drop (p ++ [star]).length))) (fun e => decide (p ++ [t] <+: TK e.1) && mr ts ((TK e.1).drop (p ++ [t]).length)) (fun e ⟨g1, g2⟩ => ?_)).trans (List.Perm.append_right _ (filter_or_perm E _ _ (fun e ⟨g1, g2⟩ => ?_)))
 ·
  have k2 := of_decide_eq_true (Bool.and_eq_true_iff.1 g2).1
  rcases Bool.or_eq_true_iff.1 g1 with g | g
  ·
   exact hx e _ _ (Ne.symm h2) ⟨of_decide_eq_true (Bool.and_eq_true_iff.1 g).1, k2⟩
  ·
   exact hx e _ _ (Ne.symm h1) ⟨of_decide_eq_true (Bool.and_eq_true_iff.1 g).1, k2⟩
 ·
  exact hx e _ _ gts_ne_star ⟨of_decide_eq_true (Bool.and_eq_true_iff.1 g1).1, of_decide_eq_true (Bool.and_eq_true_iff.1 g2).1⟩
theorem mvL_sel (E : List Ent) : ∀ (ts p : Path), ts ≠ [] → Lit0 ts → (mvL E p ts).Perm (selE E p ts)
 | [], p, h, _ => absurd rfl h
 | t :: ts, p, _, hl => by
  obtain ⟨h1, h2⟩ := hl t List.mem_cons_self
  have hl' : Lit0 ts := fun x hx => hl x (List.mem_cons_of_mem _ hx)
  refine List.Perm.trans ?_ (sel_cons E p t ts h1 h2).symm
  rw [mvL]
  cases ts with
  | nil =>
   rw [if_pos (show ([] : Path).length = 0 from rfl), vals_sel, vals_sel, vals_sel, show mvL E (p ++ [star]) [] = [] from rfl, List.append_nil, List.append_assoc]
   exact List.Perm.append_left _ List.perm_append_comm
  | cons x xs =>
   rw [if_neg (by simp)]
   exact List.Perm.append (List.Perm.append_left _ (mvL_sel E (x :: xs) (p ++ [star]) (by simp) hl')) (mvL_sel E (x :: xs) (p ++ [t]) (by simp) hl')
theorem mvL_len (E : List Ent) (ts p : Path) (hl : Lit0 ts) : (mvL E p ts).length ≤ E.length := by
 by_cases h : ts = []
 ·
  subst h; exact Nat.zero_le _
 ·
  rw [(mvL_sel E ts p h hl).length_eq]
  unfold selE
  rw [List.length_map]
  exact List.length_filter_le _ _
/-- Nothing there. -/
theorem vals_none {E : List Ent} {q : Path} (h : ∀ e ∈ E, ¬ q <+: TK e.1) : vals E q = [] := by
 unfold vals
 rw [List.map_eq_nil_iff, List.filter_eq_nil_iff]
 intro e he hd
 refine h e he ?_
 rw [of_decide_eq_true hd]
 exact List.prefix_refl _
theorem mvL_none {E : List Ent} : ∀ (ts q : Path), (∀ e ∈ E, ¬ q <+: TK e.1) → mvL E q ts = []
 | [], _, _ => rfl
 | t :: ts, q, h => by
  have hs : ∀ u, ∀ e ∈ E, ¬ q ++ [u] <+: TK e.1 := fun u e he g => h e he (pre_snoc.1 g).1
  rw [mvL, vals_none (hs gts), mvL_none ts _ (hs star), vals_none (hs t), vals_none (hs star), mvL_none ts _ (hs t)]
  simp
theorem none_below {N B : Nat} {w : World} {T : Trie} {E : List Ent} (h : MemT TK N w B T E) {q : Path} (hq : q ≠ []) (hn : T.nd q = none) : ∀ e ∈ E, ¬ q <+: TK e.1 := fun e he hp => by
 have h1 := h.ent e.1 e.2 he
 have h2 : 0 < q.length := by cases q with | nil => exact absurd rfl hq | cons a b => simp
 have h3 := hp.length_le
 have := (way_nd h (TK e.1) h1 ((TK e.1).length - q.length) q.length (by omega)).1 h2
 rw [← pre_take hp rfl] at this
 exact this hn
theorem none_level {N B root : Nat} {w : World} {T : Trie} {E : List Ent} (h : MemT TK N w B T E) (hL : LogT TK root T E) {q : Path} (hn : T.lv q = none) : ∀ e ∈ E, ¬ q <+: TK e.1 := by
 have hq : q ≠ [] := by
  rintro rfl
  obtain ⟨m, hm⟩ := hL.rt
  rw [hm] at hn
  exact absurd hn (by simp)
 refine none_below h hq ?_
 cases g : T.nd q with
 | none => rfl
 | some r => exact absurd hn (hL.full q (some_ne g))
/-- The tokens, below what the function writes. -/
def SRow (base ob : Nat) (w : World) (A : Option Addr) (ts : Path) : Prop := 0 < ts.length → ∃ g o, A = some ⟨g, o, none⟩ ∧ g < base ∧ g ≠ ob ∧ g < w.heap.size ∧ ∀ i, i < ts.length → w.cell? ⟨g, o + i, none⟩ = some (.string (ts.getD i ByteArray.empty))
theorem SRow.keep {base ob : Nat} {w w' : World} {A : Option Addr} {ts : Path} (h : SRow base ob w A ts) (hf : ClF base ob w w') : SRow base ob w' A ts := fun hn => by
 obtain ⟨g, o, e, h1, h2, h3, h4⟩ := h hn
 obtain ⟨ob', ho⟩ : ∃ x, w.heap[g]? = some x := ⟨_, Array.getElem?_eq_getElem h3⟩
 have := hf.keep g ob' ho (.inr h1) h2
 exact ⟨g, o, e, h1, h2, Nat.lt_of_lt_of_le h3 hf.size, fun i hi => (cell_same (this.trans ho.symm) _).trans (h4 i hi)⟩
theorem SRow.drop {base ob : Nat} {w : World} {g o : Nat} {ts : Path} (h : SRow base ob w (some ⟨g, o, none⟩) ts) (k : Nat) : SRow base ob w (some ⟨g, o + k, none⟩) (ts.drop k) := fun hn => by
 rw [List.length_drop] at hn
 obtain ⟨g', o', e, h1, h2, h3, h4⟩ := h (by omega)
 injection e with e
 injection e with e1 e2
 subst e1 e2
 refine ⟨g, o + k, rfl, h1, h2, h3, fun i hi => ?_⟩
 rw [List.length_drop] at hi
 rw [Nat.add_assoc, h4 (k + i) (by omega), List.getD_eq_getElem?_getD, List.getD_eq_getElem?_getD, List.getElem?_drop]
theorem memT_clo {N B base ob : Nat} {xs : List Int} {w w' : World} {T : Trie} {E : List Ent} (h : MemT TK N w B T E) (hI : CloI base ob xs w) (hf : ClF base ob w w') : MemT TK N w' B T E :=
 h.keep (fun k o ho hk => hf.keep k o ho (.inl (wl_of_wm hk)) (fun e => by
  obtain ⟨_, _, sv, h1, _⟩ := hI
  rw [e, h1] at ho
  injection ho with ho
  rw [← ho] at hk
  exact absurd hk (by simp [wm])))

end Go.Proofs.YtcnbnljlopopkaaDoor.LsD

-- thin
