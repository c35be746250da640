/- Plain facts on texts as lists of bytes: their parts between points, and what the printed loops over them come to. No condition. -/
import Derived.Test.YtcnbnljlopopkaaDoorWNEv
import Derived.Test.YtcnbnljlopopkaaDoorWMore
import Derived.Laws.Strings
import Derived.WalkKit
import Derived.Deep.Onto
import Derived.Laws.Tables
import Derived.KernelRfl
namespace Go.Proofs.YtcnbnljlopopkaaDoor.Road
open Go.RowKit Go.Proofs.YtcnbnljlopopkaaDoorW.PrintWords Go.Proofs.YtcnbnljlopopkaaDoorW.PrintLast
set_option linter.unusedVariables false
set_option linter.unusedSimpArgs false

abbrev Bs := List UInt8
def mkB (l : Bs) : ByteArray := ⟨l.toArray⟩
def bl (s : ByteArray) : Bs := s.data.toList

theorem bl_mkB (l : Bs) : bl (mkB l) = l := by simp [mkB, bl]
theorem mkB_bl (s : ByteArray) : mkB (bl s) = s := by cases s; simp [mkB, bl]
theorem bl_inj {s t : ByteArray} (h : bl s = bl t) : s = t := by rw [← mkB_bl s, ← mkB_bl t, h]
theorem mkB_inj {l m : Bs} (h : mkB l = mkB m) : l = m := by rw [← bl_mkB l, ← bl_mkB m, h]
theorem bl_len (s : ByteArray) : (bl s).length = s.size := by cases s; rfl
theorem size_mkB (l : Bs) : (mkB l).size = l.length := by rw [← bl_len, bl_mkB]
theorem toList_bl (s : ByteArray) : s.toList = bl s := ByteArray.toList_eq s
theorem toList_mkB (l : Bs) : (mkB l).toList = l := by rw [toList_bl, bl_mkB]
theorem extract_mkB (s : ByteArray) (a b : Nat) : s.extract a b = mkB (((bl s).take b).drop a) := by
  apply bl_inj
  rw [bl_mkB]
  simp [bl, ByteArray.data_extract, Array.toList_extract, List.extract_eq_take_drop]
  rw [List.drop_take]

theorem bl_extract (s : ByteArray) (a b : Nat) : bl (s.extract a b) = ((bl s).take b).drop a := by rw [extract_mkB, bl_mkB]

theorem wrap_nat (i : Nat) (h : i < 9223372036854775807) : wrap64 ((i : Int) + 1) = ((i + 1 : Nat) : Int) := by
  unfold wrap64
  omega

theorem bt_get (s : ByteArray) (i : Nat) (h : i < (bl s).length) : bt s (i : Int) = (((bl s)[i]'h).toNat : Int) := by
  have h' : i < s.size := by rw [← bl_len]; exact h
  unfold bt
  simp only [Int.toNat_natCast]
  rw [dif_pos h']
  rfl

theorem w64 (x y : Int) (e : x = y) (h0 : -9223372036854775808 ≤ y) (h1 : y ≤ 9223372036854775807) : wrap64 x = y := by
  subst e
  unfold wrap64
  omega
theorem wu64 (x y : Int) (e : x = y) (h0 : 0 ≤ y) (h1 : y < 18446744073709551616) : IntKind.u64.wrap x = y := by
  subst e
  rw [IntKind.wrap_u64]
  omega
theorem wi64 (x y : Int) (e : x = y) (h0 : -9223372036854775808 ≤ y) (h1 : y ≤ 9223372036854775807) : IntKind.i64.wrap x = y := by
  subst e
  rw [IntKind.wrap_i64]
  omega
theorem drop_get {α : Type} (l : List α) (i : Nat) (h : i < l.length) : l.drop i = l[i]'h :: l.drop (i + 1) := List.drop_eq_getElem_cons h

theorem rdOf_nat {α : Type} (d : α) (xs : List α) (i : Nat) (h : i < xs.length) : rdOf d xs (i : Int) = xs[i]'h := by
  unfold rdOf
  simp [h]

theorem take_drop_snoc (l : Bs) (a i : Nat) (ha : a ≤ i) (h : i < l.length) : (l.take (i + 1)).drop a = (l.take i).drop a ++ [l[i]'h] := by
  rw [List.take_succ_eq_append_getElem h, List.drop_append]
  have h1 : a - (l.take i).length = 0 := by rw [List.length_take]; omega
  rw [h1]
  rfl

theorem u8_eq (c : UInt8) (n : Nat) (hn : n < 256) : ((c.toNat : Int) = (n : Int)) ↔ c = UInt8.ofNat n := by
  constructor
  · intro h
    apply UInt8.toNat_inj.1
    rw [UInt8.toNat_ofNat']
    omega
  · intro h
    subst h
    rw [UInt8.toNat_ofNat']
    omega

/-! ### bytes as numbers -/
theorem strOfNums_bytesOf (s : ByteArray) : strOfNums (bytesOf s) = s := by
  apply bl_inj
  simp only [strOfNums, bytesOf, bl, List.map_map]
  conv => rhs; rw [← List.map_id s.data.toList]
  apply List.map_congr_left
  intro x hx
  simp
theorem bytesOf_mkB (l : Bs) : bytesOf (mkB l) = l.map fun b => (b.toNat : Int) := by simp [bytesOf, mkB]
theorem nums_of_wf {l : List Int} (h : ∀ x ∈ l, (Lit.int .u8 x).wf = true) : ∃ s : ByteArray, l = bytesOf s := by
  refine ⟨mkB (l.map fun x => UInt8.ofNat x.toNat), ?_⟩
  rw [bytesOf_mkB, List.map_map]
  conv => lhs; rw [← List.map_id l]
  apply List.map_congr_left
  intro x hx
  have := h x hx
  simp [Lit.wf, IntKind.min, IntKind.max, IntKind.signed, IntKind.bits] at this
  simp only [id, Function.comp, UInt8.toNat_ofNat']
  omega

/-! ### parts between points -/
def toks (p : Bs) : Bs → List Bs
  | [] => [p]
  | c :: l => if c = 46 then p :: toks [] l else toks (p ++ [c]) l

theorem toks_ne (p l : Bs) : toks p l ≠ [] := by
  induction l generalizing p with
  | nil => simp [toks]
  | cons c l ih => unfold toks; split; simp; exact ih _

theorem toks_pre (q p l : Bs) : ∃ t ts, toks p l = t :: ts ∧ toks (q ++ p) l = (q ++ t) :: ts := by
  induction l generalizing p with
  | nil => exact ⟨p, [], rfl, rfl⟩
  | cons c l ih =>
    by_cases h : c = 46
    · exact ⟨p, toks [] l, by simp [toks, h], by simp [toks, h]⟩
    · obtain ⟨t, ts, h1, h2⟩ := ih (p ++ [c])
      exact ⟨t, ts, by simp [toks, h, h1], by rw [← List.append_assoc] at h2; simp [toks, h]; rw [List.append_assoc] at h2; exact h2⟩

/-- The parts' lengths, and the points between them. -/
theorem toks_len (p l : Bs) : ((toks p l).map fun t => t.length + 1).sum = p.length + l.length + 1 := by
  induction l generalizing p with
  | nil => simp [toks]
  | cons c l ih =>
    unfold toks
    split
    · simp [ih]; omega
    · rw [ih]; simp; omega

theorem toks_nodot (p l : Bs) (hp : (46 : UInt8) ∉ p) : ∀ t ∈ toks p l, (46 : UInt8) ∉ t := by
  induction l generalizing p with
  | nil => intro t ht; simp [toks] at ht; rw [ht]; exact hp
  | cons c l ih =>
    unfold toks
    split
    · intro t ht
      rcases List.mem_cons.1 ht with ht | ht
      · rw [ht]; exact hp
      · exact ih [] (by simp) t ht
    · rename_i hc
      exact ih _ (by intro h; rcases List.mem_append.1 h with h | h; exact hp h; exact hc (by simpa using (List.mem_singleton.1 h).symm))

/-- Parts with points between. -/
def join : List Bs → Bs
  | [] => []
  | [t] => t
  | t :: u :: ts => t ++ 46 :: join (u :: ts)

theorem join_cons (t : Bs) (ts : List Bs) (h : ts ≠ []) : join (t :: ts) = t ++ 46 :: join ts := by
  cases ts with
  | nil => exact absurd rfl h
  | cons u ts => rfl

theorem join_toks (p l : Bs) : join (toks p l) = p ++ l := by
  induction l generalizing p with
  | nil => simp [toks, join]
  | cons c l ih =>
    unfold toks
    split
    · rename_i h
      rw [join_cons _ _ (toks_ne _ _), ih, h]
      rfl
    · rw [ih]; simp

theorem toks_append (p t l : Bs) (ht : (46 : UInt8) ∉ t) : toks p (t ++ l) = toks (p ++ t) l := by
  induction t generalizing p with
  | nil => simp
  | cons c t ih =>
    have hc : c ≠ 46 := by intro h; exact ht (by simp [h])
    have h1 : toks p (c :: (t ++ l)) = toks (p ++ [c]) (t ++ l) := by rw [toks, if_neg hc]
    show toks p (c :: (t ++ l)) = _
    rw [h1, ih _ (fun h => ht (by simp [h])), List.append_assoc]
    rfl

theorem toks_join (ts : List Bs) (hn : ts ≠ []) (h : ∀ t ∈ ts, (46 : UInt8) ∉ t) : toks [] (join ts) = ts := by
  induction ts with
  | nil => exact absurd rfl hn
  | cons t ts ih =>
    cases ts with
    | nil =>
      have := toks_append [] t [] (h t (by simp))
      simp at this
      show toks [] t = [t]
      rw [this]; rfl
    | cons u ts =>
      show toks [] (t ++ 46 :: join (u :: ts)) = _
      rw [toks_append _ _ _ (h t (by simp))]
      show toks ([] ++ t) (46 :: join (u :: ts)) = _
      unfold toks
      rw [if_pos rfl, ih (by simp) (fun x hx => h x (by simp [hx]))]
      simp

theorem toks_inj {l m : Bs} (h : toks [] l = toks [] m) : l = m := by
  have := join_toks [] l
  rw [h, join_toks] at this
  simpa using this.symm

theorem sum_ge (ts : List Bs) (h : ∀ t ∈ ts, t ≠ []) : 2 * ts.length ≤ (ts.map fun t => t.length + 1).sum := by
  induction ts with
  | nil => simp
  | cons t ts ih =>
    have h1 := ih (fun x hx => h x (by simp [hx]))
    have h2 : 1 ≤ t.length := by
      have := h t (by simp)
      cases t with
      | nil => exact absurd rfl this
      | cons a b => simp
    simp
    omega

/-- How many parts. -/
theorem toks_count (l : Bs) (h : ∀ t ∈ toks [] l, t ≠ []) : 2 * (toks [] l).length ≤ l.length + 1 := by
  have h1 := sum_ge _ h
  have h2 := toks_len [] l
  simp at h2
  omega

theorem toks_length_le (l : Bs) : (toks [] l).length ≤ l.length + 1 := by
  have h2 := toks_len [] l
  have : ∀ ts : List Bs, ts.length ≤ (ts.map fun t => t.length + 1).sum := by
    intro ts
    induction ts with
    | nil => simp
    | cons t ts ih => simp; omega
  have := this (toks [] l)
  simp at h2
  omega

theorem toks_length_le' (p l : Bs) : (toks p l).length ≤ l.length + 1 := by
  induction l generalizing p with
  | nil => simp [toks]
  | cons c l ih =>
    unfold toks
    split
    · have := ih []; simp; omega
    · have := ih (p ++ [c]); simp; omega

/-! ### what is said of subjects -/
def blankB (c : UInt8) : Bool := c == 32 || c == 9 || c == 10 || c == 13 || c == 12
def spacedB (l : Bs) : Bool := l.any blankB
def formedB : List Bs → Bool
  | [] => true
  | t :: ts => if t = [] then false else if t = [62] then (if ts = [] then formedB ts else false) else formedB ts
def tameT (t : Bs) : Bool := decide (t.length ≤ 1) || t.all fun c => c != 42 && c != 62
def tameB (ts : List Bs) : Bool := ts.all tameT
def cleanC (c : UInt8) : Bool := !decide (c ≤ 32) && c != 127
def cleanB (l : Bs) : Bool := decide (l.length ≤ 400) && l.all cleanC
def sValidB (l : Bs) : Bool := formedB (toks [] l) && !spacedB l
def validB (l : Bs) : Bool := cleanB l && sValidB l && tameB (toks [] l)

theorem cleanC_lo {c : UInt8} (h : (c.toNat : Int) ≤ 32) : cleanC c = false := by
  have : c ≤ 32 := UInt8.le_iff_toNat_le.2 (by simp; omega)
  simp [cleanC, this]
theorem cleanC_del {c : UInt8} (h : c = 127) : cleanC c = false := by simp [cleanC, h]
theorem cleanC_ok {c : UInt8} (h : ¬ (c.toNat : Int) ≤ 32) (h' : ¬ c = 127) : cleanC c = true := by
  have : ¬ c ≤ 32 := fun hh => h (by have := UInt8.le_iff_toNat_le.1 hh; simp at this; omega)
  simp only [cleanC, decide_eq_false this, Bool.not_false, Bool.true_and, bne_iff_ne]
  exact h'
theorem tameB_cons (t : Bs) (ts : List Bs) : tameB (t :: ts) = (tameT t && tameB ts) := by simp [tameB]
theorem spacedB_cons (c : UInt8) (l : Bs) : spacedB (c :: l) = (blankB c || spacedB l) := by simp [spacedB]

theorem formedB_ne {ts : List Bs} (h : formedB ts = true) : ∀ t ∈ ts, t ≠ [] := by
  induction ts with
  | nil => simp
  | cons t ts ih =>
    intro u hu
    unfold formedB at h
    by_cases h1 : t = []
    · simp [h1] at h
    · rw [if_neg h1] at h
      rcases List.mem_cons.1 hu with hu | hu
      · rw [hu]; exact h1
      · by_cases h2 : t = [62]
        · rw [if_pos h2] at h
          by_cases h3 : ts = []
          · rw [h3] at hu; simp at hu
          · rw [if_neg h3] at h; simp at h
        · rw [if_neg h2] at h
          exact ih h u hu

theorem formedB_tail {t : Bs} {ts : List Bs} (h : formedB (t :: ts) = true) : formedB ts = true := by
  unfold formedB at h
  split at h
  · simp at h
  · split at h
    · split at h
      · exact h
      · simp at h
    · exact h

theorem formedB_gt {t : Bs} {ts : List Bs} (h : formedB (t :: ts) = true) (ht : t = [62]) : ts = [] := by
  unfold formedB at h
  subst ht
  simp at h
  exact h.1

theorem validB_parts {l : Bs} (h : validB l = true) : l.length ≤ 400 ∧ (∀ c ∈ l, cleanC c = true) ∧ formedB (toks [] l) = true ∧ spacedB l = false ∧ tameB (toks [] l) = true := by
  unfold validB cleanB sValidB at h
  simp only [Bool.and_eq_true, Bool.not_eq_true', decide_eq_true_eq, List.all_eq_true] at h
  exact ⟨h.1.1.1, h.1.1.2, h.1.2.1, h.1.2.2, h.2⟩

theorem validB_count {l : Bs} (h : validB l = true) : (toks [] l).length ≤ 200 := by
  obtain ⟨h1, _, h2, _⟩ := validB_parts h
  have := toks_count l (formedB_ne h2)
  omega

/-! ### the parts as texts -/
def tokB (s : ByteArray) : List ByteArray := (toks [] (bl s)).map mkB
theorem tokB_length (s : ByteArray) : (tokB s).length = (toks [] (bl s)).length := by simp [tokB]

/-- How far a walk over a text has come: the parts behind it, where the next one begins, the place. -/
def TokAt (s : ByteArray) (out : List ByteArray) (a i : Int) : Prop :=
  0 ≤ a ∧ a ≤ i ∧ i ≤ s.size ∧ (out.length : Int) ≤ i ∧ out ++ (toks (((bl s).take i.toNat).drop a.toNat) ((bl s).drop i.toNat)).map mkB = tokB s

theorem TokAt.start (s : ByteArray) : TokAt s [] 0 0 := ⟨by omega, by omega, by omega, by simp, by simp [tokB]⟩
theorem TokAt.dot {s : ByteArray} {out : List ByteArray} {a i : Int} (h : TokAt s out a i) (hi : i < s.size) (hs : s.size ≤ 2147483647) (hc : bt s i = 46) : TokAt s (out ++ [s.extract a.toNat i.toNat]) (wrap64 (i + 1)) (wrap64 (i + 1)) := by
  obtain ⟨h1, h2, h3, h4, h5⟩ := h
  obtain ⟨n, rfl⟩ := Int.eq_ofNat_of_zero_le (show 0 ≤ i by omega)
  have hl := bl_len s
  have hlt : n < (bl s).length := by omega
  have hb := bt_get s n hlt
  have hd : (bl s)[n] = 46 := (u8_eq _ 46 (by omega)).1 (by rw [← hb]; exact hc)
  rw [wrap_nat n (by omega)]
  refine ⟨by omega, by omega, by omega, by simp; omega, ?_⟩
  rw [← h5]
  simp only [Int.toNat_natCast]
  rw [drop_get _ _ hlt, toks, if_pos hd]
  simp [extract_mkB]
theorem TokAt.skip {s : ByteArray} {out : List ByteArray} {a i : Int} (h : TokAt s out a i) (hi : i < s.size) (hs : s.size ≤ 2147483647) (hc : ¬ bt s i = 46) : TokAt s out a (wrap64 (i + 1)) := by
  obtain ⟨h1, h2, h3, h4, h5⟩ := h
  obtain ⟨n, rfl⟩ := Int.eq_ofNat_of_zero_le (show 0 ≤ i by omega)
  obtain ⟨m, rfl⟩ := Int.eq_ofNat_of_zero_le h1
  have hl := bl_len s
  have hlt : n < (bl s).length := by omega
  have hb := bt_get s n hlt
  have hd : ¬ (bl s)[n] = 46 := fun h => hc (by rw [hb, h]; rfl)
  rw [wrap_nat n (by omega)]
  refine ⟨by omega, by omega, by omega, by omega, ?_⟩
  rw [← h5]
  simp only [Int.toNat_natCast]
  rw [drop_get _ _ hlt, toks, if_neg hd, take_drop_snoc _ _ _ (by omega) hlt]
theorem TokAt.last {s : ByteArray} {out : List ByteArray} {a i : Int} (h : TokAt s out a i) (hi : ¬ i < s.size) : out ++ [s.extract a.toNat s.size] = tokB s := by
  obtain ⟨h1, h2, h3, h4, h5⟩ := h
  have hl := bl_len s
  have e : i.toNat = (bl s).length := by omega
  rw [← h5, e, List.drop_length, toks, List.take_length, extract_mkB, ← hl, List.take_length]
  rfl

/-! ### a slice over a variable that is an array, appended to: still in it, or in new memory -/
/-- A slice at the head of a block from 'base' on, whatever the block's type; its elements' cells are xs. -/
def AnyRow (w : World) (base size : Nat) (v : Value) (n : Nat) (xs : List Value) : Prop :=
  xs.length = n * size ∧ ((v = .slice none 0 0 ∧ n = 0) ∨
    ∃ g cap cur T, v = .slice (some ⟨g, 0, none⟩) n cap ∧ base ≤ g ∧ w.heap[g]? = some (.cells cur T (0, 0)) ∧ n ≤ cap ∧ cap ≤ maxLen ∧ cur.size = cap * size ∧ cur.toList.take (n * size) = xs)

theorem AnyRow.of_own {w : World} {base e size n : Nat} {v : Value} {xs : List Value} (h : w.ownsRow base e size v n xs) : AnyRow w base size v n xs :=
  ⟨h.1, h.2.imp id fun ⟨g, cap, cur, h1, h2, h3, h4⟩ => ⟨g, cap, cur, e, h1, h2, h3, h4⟩⟩
theorem AnyRow.base {w : World} {base size n : Nat} {v : Value} {xs : List Value} (h : AnyRow w base size v n xs) : ∀ k, v.ownBlock = some k → base ≤ k ∧ k < w.heap.size := by
  intro k hk
  rcases h.2 with ⟨rfl, _⟩ | ⟨g, cap, cur, T, rfl, hb, hg, _⟩
  · simp [Value.ownBlock] at hk
  · simp [Value.ownBlock] at hk
    subst hk
    exact ⟨hb, (Array.getElem?_eq_some_iff.1 hg).1⟩
theorem AnyRow.move {w w' : World} {base size n : Nat} {v : Value} {xs : List Value} (h : AnyRow w base size v n xs) (hm : ∀ k, v.ownBlock = some k → w'.heap[k]? = w.heap[k]?) : AnyRow w' base size v n xs := by
  refine ⟨h.1, ?_⟩
  rcases h.2 with hn | ⟨g, cap, cur, T, rfl, hb, hgg, r⟩
  · exact .inl hn
  · exact .inr ⟨g, cap, cur, T, rfl, hb, (hm g (by simp [Value.ownBlock])).trans hgg, r⟩
theorem AnyRow.alloc {w : World} {base size n : Nat} {v : Value} {xs : List Value} (h : AnyRow w base size v n xs) (o : Obj) : AnyRow (w.alloc o) base size v n xs :=
  h.move fun k hk => Below.heap_alloc w o k (h.base k hk).2
theorem AnyRow.drew {w : World} {base size n : Nat} {v : Value} {xs : List Value} (h : AnyRow w base size v n xs) : AnyRow w.drew base size v n xs := h.move fun _ _ => rfl
theorem AnyRow.drewN {w : World} {base size n : Nat} {v : Value} {xs : List Value} (h : AnyRow w base size v n xs) (m : Nat) : AnyRow (w.drewN m) base size v n xs := h.move fun _ _ => rfl
theorem AnyRow.below {w w' : World} {base size n : Nat} {v : Value} {xs : List Value} (h : AnyRow w base size v n xs) (hb : Below w.heap.size w w') : AnyRow w' base size v n xs := h.move fun k hk => hb.block k (h.base k hk).2
theorem AnyRow.start {w : World} {base size g cap : Nat} {cur : Array Value} {T : TypeId} (hb : base ≤ g) (hg : w.heap[g]? = some (.cells cur T (0, 0))) (hm : cap ≤ maxLen) (hs : cur.size = cap * size) : AnyRow w base size (.slice (some ⟨g, 0, none⟩) 0 cap) 0 [] :=
  ⟨by simp, .inr ⟨g, cap, cur, T, rfl, hb, hg, Nat.zero_le _, hm, hs, by simp⟩⟩
theorem AnyRow.cells {w : World} {base size n : Nat} {v : Value} {xs : List Value} (h : AnyRow w base size v n xs) {g : Nat} (hg : v.ownBlock = some g) : ∀ j u, xs[j]? = some u → w.cell? ((⟨g, 0, none⟩ : Addr).add j) = some u := by
  intro j u hu
  rcases h.2 with ⟨rfl, _⟩ | ⟨g', cap, cur, T, rfl, _, hgg, _, _, _, htake⟩
  · simp [Value.ownBlock] at hg
  · simp [Value.ownBlock] at hg
    subst hg
    have hadd : (⟨g', 0, none⟩ : Addr).add j = ⟨g', j, none⟩ := add_plain g' j
    rw [hadd, cell_of_row w g' j cur T (0, 0) hgg]
    rw [← htake, List.getElem?_take] at hu
    split at hu
    · simpa using hu
    · cases hu

section
variable {P : Program}
theorem run_append_room_any (w : World) (t ty e : TypeId) (i : TypeInfo) (ht : P.underlying t = some (.slice e)) (hi : P.info? e = some i)
    (g sLen sCap : Nat) (cur : Array Value) (T : TypeId) (hg : w.heap[g]? = some (.cells cur T (0, 0)))
    (a : Addr) (m c : Nat) (news : List Value) (hl : news.length = m * i.size) (hnews : ∀ j u, news[j]? = some u → w.cell? (a.add j) = some u) (h1 : ∀ u ∈ news, u.oneCell' = true)
    (hroom : sLen + m ≤ sCap) (hfit : sLen * i.size + news.length ≤ cur.size) :
    (Builtin.append_ #[t, t] ty #[.slice (some ⟨g, 0, none⟩) sLen sCap, .slice (some a) m c]).run P w =
      .ok (.slice (some ⟨g, 0, none⟩) (sLen + m) sCap) (w.setRow g (cur.toList.take (sLen * i.size) ++ news ++ cur.toList.drop (sLen * i.size + news.length)).toArray) := by
  have hf := run_firstCells_some (P := P) w i.size m a m c news hl hnews
  have hst := run_storeCells_at P g (sLen * i.size) T news 0 cur w hg (by simpa using hfit) h1
  simp only [Nat.add_zero] at hst
  simp [Builtin.append_, run_underlying ht, sizeOf, typeInfo, hi, Builtin.lenOf, hroom, hf, Addr.add_lit, hst]

theorem run_append_any (w : World) (base : Nat) (t ty e : TypeId) (i : TypeInfo) (z : Value) (size bytes : Nat) (ht : P.underlying t = some (.slice e)) (hi : P.info? e = some i) (hz : i.zero = some z)
    (hsize : i.size = size) (hby : i.bytes = bytes) (hzs : z.cells.size = size) (hsz : 0 < size)
    (v : Value) (n : Nat) (xs : List Value) (hown : AnyRow w base size v n xs)
    (a : Addr) (m c : Nat) (news : List Value) (hl : news.length = m * size) (hnews : ∀ j u, news[j]? = some u → w.cell? (a.add j) = some u) (h1 : ∀ u ∈ news, u.oneCell' = true)
    (h63 : n + m ≤ maxLen) (hbytes : (n + m) * bytes ≤ 140737488355328) (hbase : base ≤ w.heap.size) :
    ∃ v' w', (Builtin.append_ #[t, t] ty #[v, .slice (some a) m c]).run P w = .ok v' w' ∧ AnyRow w' base size v' (n + m) (xs ++ news) ∧ w.grownBy w' v.ownBlock ∧ (v'.ownBlock = v.ownBlock ∨ ∃ b, v'.ownBlock = some b ∧ w.heap.size ≤ b) := by
  rcases hown.2 with ⟨rfl, rfl⟩ | ⟨g, cap, cur, T, rfl, hbg, hg, hnc, hcm, hcs, htake⟩
  · have hx : xs = [] := List.eq_nil_of_length_eq_zero (by simpa using hown.1)
    subst hx
    obtain ⟨v', w', hr, h2, h3, _, h5⟩ := run_append_own_at (P := P) w base t ty e i z size bytes ht hi hz hsize hby hzs hsz (.slice none 0 0) 0 [] (World.ownsRow_nil w base e size) a m c news hl hnews h1 h63 hbytes hbase
    exact ⟨v', w', hr, AnyRow.of_own h2, h3, h5.imp id fun h => ⟨_, h, Nat.le_refl _⟩⟩
  · by_cases hroom : n + m ≤ cap
    · have hlen : (xs ++ news).length = (n + m) * size := by rw [List.length_append, hown.1, hl, Nat.add_mul]
      subst hsize
      have hfit : n * i.size + news.length ≤ cur.size := by rw [hl, hcs, ← Nat.add_mul]; exact Nat.mul_le_mul_right _ hroom
      have hr := run_append_room_any (P := P) w t ty e i ht hi g n cap cur T hg a m c news hl hnews h1 hroom hfit
      refine ⟨_, _, hr, ⟨hlen, .inr ⟨g, cap, _, T, rfl, hbg, setRow_heap w g cur _ T _ hg, hroom, hcm, ?_, ?_⟩⟩, ⟨rfl, rfl, rfl, by simp, fun k _ hk => setRow_other w g k _ (fun e => hk (by simp [Value.ownBlock, e]))⟩, .inl rfl⟩
      · simp only [List.size_toArray, List.length_append, List.length_take, List.length_drop, Array.length_toList]
        omega
      · rw [htake, ← hlen]
        exact List.take_left
    · obtain ⟨v', w', hr, h2, h3⟩ := run_append_arg_grows (P := P) w t ty e i z size bytes ht hi hz hsize hby hzs hsz ⟨g, 0, none⟩ n cap xs hown.1 (hown.cells (g := g) rfl) a m c news hl hnews (by omega) h63 hbytes
      refine ⟨v', w', hr, AnyRow.of_own (World.ownsRow.mono h2 hbase), ⟨h3.os, h3.tape, h3.output, h3.size, fun k hk _ => h3.block k hk (by simp)⟩, ?_⟩
      rcases h2.2 with ⟨_, h0⟩ | ⟨g', _, _, rfl, hg', _⟩
      · omega
      · exact .inr ⟨g', rfl, hg'⟩

/-- 'append(s, x)' at the operation: x's cells lie in the block that was just laid. -/
theorem AnyRow.append {ops : Array Oper} {rest : List Oper} {o : Oper} {a : Act} {Q : Exit → Act → World → Prop} {w0 w : World} (hgd : o.guard = none) (s x : Operand) (t e : TypeId) (z : Value) (size bytes : Nat)
    (ho : o.op = .call { callee := .builtin .append, args := #[s, x], argTypes := #[t, t] })
    (ht : P.underlying t = some (.slice e)) (hinfo : (P.info? e).map (fun i => (i.zero, i.size, i.bytes)) = some (some z, size, bytes)) (hzs : z.cells.size = size) (hsz : 0 < size)
    (v : Value) (n : Nat) (xs : List Value) (news : List Value) (hs : a.eval s = v) (hx : a.eval x = .slice (some ⟨w.heap.size, 0, none⟩) 1 1) (hl : news.length = size) (h1 : ∀ u ∈ news, u.oneCell' = true)
    (h63 : n + 1 ≤ maxLen) (hbytes : (n + 1) * bytes ≤ 140737488355328)
    (h : AnyRow w w0.heap.size size v n xs) (hb : Below w0.heap.size w0 w)
    (hK : ∀ v' w', AnyRow w' w0.heap.size size v' (n + 1) (xs ++ news) → Below w0.heap.size w0 w' → wpList P ops Q rest (a.put o.dst v') w') : wpList P ops Q (o :: rest) a (w.alloc (.cells news.toArray e)) := by
  obtain ⟨i0, hi, hzz⟩ := Option.map_eq_some_iff.1 hinfo
  simp only [Prod.mk.injEq] at hzz
  obtain ⟨hz0, hz1, hz2⟩ := hzz
  have hB := below_alloc hb (.cells news.toArray e)
  refine wpList_plain hgd fun K hK' => ?_
  obtain ⟨v', w', hrun, r1, r2, r3⟩ := run_append_any (P := P) (w.alloc (.cells news.toArray e)) w0.heap.size t o.type e i0 z size bytes ht hi hz0 hz1 hz2 hzs hsz v n xs (h.alloc _) ⟨w.heap.size, 0, none⟩ 1 1 news (by omega)
    (World.news_of_block (cs := news.toArray) (t := e) (fr := (0, 0)) (heap_alloc_new w (.cells news.toArray e))) h1 h63 hbytes hB.size
  unfold Oper.wp execOp
  simp only [ho, resolve, invoke, builtin, Sem.run_bind, Sem.run_pure, Result.andThen_ok, List.map_toArray, List.map_cons, List.map_nil, hs, hx, hrun]
  exact hK' _ _ (hK v' w' r1 (hB.grown r2 hB.size (fun k hk => ((h.alloc (.cells news.toArray e)).base k hk).1)))
/-- From a world and a row there on: the row is that one or a newer one, and every block of that world but that row's stands. -/
def Mine (w1 : World) (v0 v : Value) (w : World) : Prop :=
  w1.heap.size ≤ w.heap.size ∧ (v.ownBlock = v0.ownBlock ∨ ∃ b, v.ownBlock = some b ∧ w1.heap.size ≤ b) ∧ ∀ k, k < w1.heap.size → v0.ownBlock ≠ some k → w.heap[k]? = w1.heap[k]?
theorem Mine.start (w : World) (v : Value) : Mine w v v w := ⟨Nat.le_refl _, .inl rfl, fun _ _ _ => rfl⟩
theorem Mine.grown {w1 w w' : World} {v0 v v' : Value} {o : Obj} (h : Mine w1 v0 v w) (r2 : (w.alloc o).grownBy w' v.ownBlock) (r3 : v'.ownBlock = v.ownBlock ∨ ∃ b, v'.ownBlock = some b ∧ (w.alloc o).heap.size ≤ b) : Mine w1 v0 v' w' := by
  have hs : w.heap.size ≤ (w.alloc o).heap.size := by
    show w.heap.size ≤ (w.heap.push o).size
    simp
  have h3 := r2.size
  refine ⟨by have := h.1; omega, ?_, ?_⟩
  · rcases r3 with r3 | ⟨b, r3, hb⟩
    · rcases h.2.1 with g | ⟨b, g, hb⟩
      · exact .inl (r3.trans g)
      · exact .inr ⟨b, r3.trans g, hb⟩
    · exact .inr ⟨b, r3, by have := h.1; omega⟩
  · intro k hk hv
    have h1 := h.1
    have hne : v.ownBlock ≠ some k := by
      rcases h.2.1 with g | ⟨b, g, hb⟩
      · rw [g]; exact hv
      · rw [g]; intro e; injection e with e; omega
    have := r2.block k (by omega) (fun e => hne e.symm)
    rw [this, Below.heap_alloc w o k (by omega)]
    exact h.2.2 k hk hv

/-- The same, with what else stands: every elder block but the row's own. -/
theorem AnyRow.append2 {ops : Array Oper} {rest : List Oper} {o : Oper} {a : Act} {Q : Exit → Act → World → Prop} {w0 w : World} (hgd : o.guard = none) (s x : Operand) (t e : TypeId) (z : Value) (size bytes : Nat)
    (ho : o.op = .call { callee := .builtin .append, args := #[s, x], argTypes := #[t, t] })
    (ht : P.underlying t = some (.slice e)) (hinfo : (P.info? e).map (fun i => (i.zero, i.size, i.bytes)) = some (some z, size, bytes)) (hzs : z.cells.size = size) (hsz : 0 < size)
    (v : Value) (n : Nat) (xs : List Value) (news : List Value) (hs : a.eval s = v) (hx : a.eval x = .slice (some ⟨w.heap.size, 0, none⟩) 1 1) (hl : news.length = size) (h1 : ∀ u ∈ news, u.oneCell' = true)
    (h63 : n + 1 ≤ maxLen) (hbytes : (n + 1) * bytes ≤ 140737488355328)
    (h : AnyRow w w0.heap.size size v n xs) (hb : Below w0.heap.size w0 w) (w1 : World) (v0 : Value) (hm : Mine w1 v0 v w)
    (hK : ∀ v' w', AnyRow w' w0.heap.size size v' (n + 1) (xs ++ news) → Below w0.heap.size w0 w' → Mine w1 v0 v' w' → wpList P ops Q rest (a.put o.dst v') w') : wpList P ops Q (o :: rest) a (w.alloc (.cells news.toArray e)) := by
  obtain ⟨i0, hi, hzz⟩ := Option.map_eq_some_iff.1 hinfo
  simp only [Prod.mk.injEq] at hzz
  obtain ⟨hz0, hz1, hz2⟩ := hzz
  have hB := below_alloc hb (.cells news.toArray e)
  refine wpList_plain hgd fun K hK' => ?_
  obtain ⟨v', w', hrun, r1, r2, r3⟩ := run_append_any (P := P) (w.alloc (.cells news.toArray e)) w0.heap.size t o.type e i0 z size bytes ht hi hz0 hz1 hz2 hzs hsz v n xs (h.alloc _) ⟨w.heap.size, 0, none⟩ 1 1 news (by omega)
    (World.news_of_block (cs := news.toArray) (t := e) (fr := (0, 0)) (heap_alloc_new w (.cells news.toArray e))) h1 h63 hbytes hB.size
  unfold Oper.wp execOp
  simp only [ho, resolve, invoke, builtin, Sem.run_bind, Sem.run_pure, Result.andThen_ok, List.map_toArray, List.map_cons, List.map_nil, hs, hx, hrun]
  exact hK' _ _ (hK v' w' r1 (hB.grown r2 hB.size (fun k hk => ((h.alloc (.cells news.toArray e)).base k hk).1)) (hm.grown r2 r3))
end

/-- .. and read: as a row of texts. -/
theorem AnyRow.reads {w : World} {base : Nat} {v : Value} {xs : List ByteArray} (h : AnyRow w base 1 v xs.length (xs.map Value.string)) :
    ∃ A c, v = .slice A xs.length c ∧ xs.length ≤ c ∧ Kd.C Kd.string w A xs.length xs := by
  have h0 := h
  rcases h.2 with ⟨rfl, hn⟩ | ⟨g, cap, cur, T, rfl, _, hgg, h4, h5, _, htake⟩
  · have : xs = [] := List.eq_nil_of_length_eq_zero hn
    subst this
    exact ⟨none, 0, rfl, Nat.le_refl _, Kd.C_of_reads (d := ByteArray.empty) (h1 := fun _ => rfl) ⟨rfl, by simp, fun h => absurd h (by simp)⟩⟩
  · refine ⟨_, cap, rfl, h4, Kd.C_of_reads (d := ByteArray.empty) (h1 := fun _ => rfl) ⟨rfl, by simp only [maxLen] at h5; omega, fun hp => ⟨_, rfl, fun j hj => ?_⟩⟩⟩
    refine h0.cells (g := g) rfl j _ ?_
    simp [List.getD_eq_getElem?_getD, hj]

/-! ### a variable that is an array, laid at its zero value: 'build', 'alloc', 'store' as one step -/
theorem setRow_new (w : World) (zs : Array Value) (T : TypeId) : (w.alloc (.cells zs T)).setRow w.heap.size zs = w.alloc (.cells zs T) := by
  have e : (w.heap.push (.cells zs T)).modify w.heap.size (fun | .cells _ elem frozen => .cells zs elem frozen | o => o) = w.heap.push (.cells zs T) := by
    apply Array.ext
    · simp
    · intro i h1 h2
      rw [Array.getElem_modify]
      split
      · rename_i h; subst h; simp
      · rfl
  show ({ w with heap := (w.heap.push (.cells zs T)).modify w.heap.size (fun | .cells _ elem frozen => .cells zs elem frozen | o => o) } : World) = { w with heap := w.heap.push (.cells zs T) }
  rw [e]

section
variable {P : Program}
theorem wpList_zeroVar {ops : Array Oper} {rest : List Oper} {o1 o2 o3 : Oper} {a : Act} {Q : Exit → Act → World → Prop} {w : World} (T : TypeId) (p q : Tmp) (zs : Array Value)
    (g1 : o1.guard = none) (g2 : o2.guard = none) (g3 : o3.guard = none) (h1 : o1.op = .build T #[]) (h2 : o2.op = .alloc T) (h3 : o3.op = .store T (.tmp q) (.tmp p)) (d1 : o1.dst = some p) (d2 : o2.dst = some q) (d3 : o3.dst = none)
    (hb : ∀ w, (Instr.build T #[]).run P w = .ok (.agg zs) w) (ha : ∀ w, (Instr.alloc T true (.tuple #[])).run P w = .ok (.pointer (some ⟨w.heap.size, 0, none⟩)) (w.alloc (.cells zs T)))
    (hi : (P.info? T).map (·.size) = some zs.size) (hc : zs.all (·.oneCell') = true) (hp0 : Nat.blt p a.tmps.size = true) (hq0 : Nat.blt q a.tmps.size = true) (hpq : q ≠ p)
    (h : wpList P ops Q rest (((a.put (some p) (.agg zs)).put (some q) (.pointer (some ⟨w.heap.size, 0, none⟩))).put none undef) (w.alloc (.cells zs T))) : wpList P ops Q (o1 :: o2 :: o3 :: rest) a w := by
  have hp : p < a.tmps.size := by simpa [Nat.blt_eq] using hp0
  have hq : q < a.tmps.size := by simpa [Nat.blt_eq] using hq0
  refine wpList_plain g1 fun K hK => ?_
  unfold Oper.wp execOp
  simp only [h1, Sem.run_bind, Array.map_empty, List.map_toArray, List.map_nil, hb, Result.andThen_ok, Sem.run_pure, Oper.upon_value, d1]
  refine hK _ _ ?_
  refine wpList_plain g2 fun K2 hK2 => ?_
  unfold Oper.wp execOp
  simp only [h2, Sem.run_bind, ha, Result.andThen_ok, Sem.run_pure, Oper.upon_value, d2]
  refine hK2 _ _ ?_
  have hrow : (w.alloc (.cells zs T)).setRow w.heap.size zs = w.alloc (.cells zs T) := setRow_new w zs T
  refine wpList_store_row g3 T (.tmp q) (.tmp p) h3 w.heap.size zs ?_ ?_ T zs (heap_alloc_new w _) hi rfl hc ?_
  · simp [Act.eval, Act.put, hq]
  · simp [Act.eval, Act.put, hp, hpq]
  · rw [hrow, d3]
    exact h
end

section
variable {P : Program}
theorem setRow_same (w : World) (g : Nat) (zs : Array Value) (T : TypeId) (h : w.heap[g]? = some (.cells zs T (0, 0))) : w.setRow g zs = w := by
  have e : w.heap.modify g (fun | .cells _ elem frozen => .cells zs elem frozen | o => o) = w.heap := by
    apply Array.ext
    · simp
    · intro i h1 h2
      rw [Array.getElem_modify]
      split
      · rename_i hi
        subst hi
        have := (Array.getElem?_eq_some_iff.1 h).2
        rw [this]
      · rfl
  show ({ w with heap := w.heap.modify g (fun | .cells _ elem frozen => .cells zs elem frozen | o => o) } : World) = w
  rw [e]
/-- Two variables of an array's type in one statement. -/
theorem wpList_zeroVar2 {ops : Array Oper} {rest : List Oper} {o1 o2 o3 o4 o5 o6 : Oper} {a : Act} {Q : Exit → Act → World → Prop} {w : World} (T : TypeId) (p1 p2 q1 q2 : Tmp) (zs : Array Value)
    (g1 : o1.guard = none) (g2 : o2.guard = none) (g3 : o3.guard = none) (g4 : o4.guard = none) (g5 : o5.guard = none) (g6 : o6.guard = none)
    (h1 : o1.op = .build T #[]) (h2 : o2.op = .build T #[]) (h3 : o3.op = .alloc T) (h4 : o4.op = .alloc T) (h5 : o5.op = .store T (.tmp q1) (.tmp p1)) (h6 : o6.op = .store T (.tmp q2) (.tmp p2))
    (d1 : o1.dst = some p1) (d2 : o2.dst = some p2) (d3 : o3.dst = some q1) (d4 : o4.dst = some q2) (d5 : o5.dst = none) (d6 : o6.dst = none)
    (hb : ∀ w, (Instr.build T #[]).run P w = .ok (.agg zs) w) (ha : ∀ w, (Instr.alloc T true (.tuple #[])).run P w = .ok (.pointer (some ⟨w.heap.size, 0, none⟩)) (w.alloc (.cells zs T)))
    (hi : (P.info? T).map (·.size) = some zs.size) (hc : zs.all (·.oneCell') = true) (hp1 : Nat.blt p1 a.tmps.size = true) (hp2 : Nat.blt p2 a.tmps.size = true) (hq1 : Nat.blt q1 a.tmps.size = true) (hq2 : Nat.blt q2 a.tmps.size = true)
    (hd : [p1, p2, q1, q2].Nodup)
    (h : wpList P ops Q rest (((((a.put (some p1) (.agg zs)).put (some p2) (.agg zs)).put (some q1) (.pointer (some ⟨w.heap.size, 0, none⟩))).put (some q2) (.pointer (some ⟨w.heap.size + 1, 0, none⟩)))) ((w.alloc (.cells zs T)).alloc (.cells zs T))) :
    wpList P ops Q (o1 :: o2 :: o3 :: o4 :: o5 :: o6 :: rest) a w := by
  have hp1' : p1 < a.tmps.size := by simpa [Nat.blt_eq] using hp1
  have hp2' : p2 < a.tmps.size := by simpa [Nat.blt_eq] using hp2
  have hq1' : q1 < a.tmps.size := by simpa [Nat.blt_eq] using hq1
  have hq2' : q2 < a.tmps.size := by simpa [Nat.blt_eq] using hq2
  simp only [List.nodup_cons, List.mem_cons, List.not_mem_nil, not_or, or_false, not_false_eq_true, List.nodup_nil, and_true] at hd
  obtain ⟨⟨n1, n2, n3⟩, ⟨n4, n5⟩, n6⟩ := hd
  refine wpList_plain g1 fun K hK => ?_
  unfold Oper.wp execOp
  simp only [h1, Sem.run_bind, Array.map_empty, List.map_toArray, List.map_nil, hb, Result.andThen_ok, Sem.run_pure, Oper.upon_value, d1]
  refine hK _ _ ?_
  refine wpList_plain g2 fun K hK => ?_
  unfold Oper.wp execOp
  simp only [h2, Sem.run_bind, Array.map_empty, List.map_toArray, List.map_nil, hb, Result.andThen_ok, Sem.run_pure, Oper.upon_value, d2]
  refine hK _ _ ?_
  refine wpList_plain g3 fun K2 hK2 => ?_
  unfold Oper.wp execOp
  simp only [h3, Sem.run_bind, ha, Result.andThen_ok, Sem.run_pure, Oper.upon_value, d3]
  refine hK2 _ _ ?_
  refine wpList_plain g4 fun K2 hK2 => ?_
  unfold Oper.wp execOp
  simp only [h4, Sem.run_bind, ha, Result.andThen_ok, Sem.run_pure, Oper.upon_value, d4]
  refine hK2 _ _ ?_
  have hsz : (w.alloc (.cells zs T)).heap.size = w.heap.size + 1 := Array.size_push ..
  rw [hsz]
  have hg1 : ((w.alloc (.cells zs T)).alloc (.cells zs T)).heap[w.heap.size]? = some (.cells zs T (0, 0)) := by
    rw [Below.heap_alloc _ _ _ (by omega)]
    exact heap_alloc_new w (.cells zs T)
  have hg2 : ((w.alloc (.cells zs T)).alloc (.cells zs T)).heap[w.heap.size + 1]? = some (.cells zs T (0, 0)) := by
    rw [← hsz]
    exact heap_alloc_new (w.alloc (.cells zs T)) (.cells zs T)
  refine wpList_store_row g5 T (.tmp q1) (.tmp p1) h5 w.heap.size zs ?_ ?_ T zs hg1 hi rfl hc ?_
  · simp [Act.eval, Act.put, hq1', Ne.symm n6]
  · simp [Act.eval, Act.put, hp1', Ne.symm n1, Ne.symm n2, Ne.symm n3]
  · rw [setRow_same _ _ _ _ hg1, d5]
    refine wpList_store_row g6 T (.tmp q2) (.tmp p2) h6 (w.heap.size + 1) zs ?_ ?_ T zs hg2 hi rfl hc ?_
    · simp [Act.eval, Act.put, hq2']
    · simp [Act.eval, Act.put, hp2', Ne.symm n4, Ne.symm n5]
    · rw [setRow_same _ _ _ _ hg2, d6]
      exact h
end

/-! ### '[]byte("..")' of a constant, as the translation lays it: its block is marked -/
theorem heap_freeze_other (W : World) (a : Addr) (n k : Nat) (h : k ≠ a.block) : (W.freeze a n).heap[k]? = W.heap[k]? := by
  unfold World.freeze
  split
  · rfl
  · show (W.heap.modify _ _)[k]? = _
    rw [Array.getElem?_modify, if_neg (Ne.symm h)]
theorem size_freeze (W : World) (a : Addr) (n : Nat) : (W.freeze a n).heap.size = W.heap.size := by
  unfold World.freeze
  split
  · rfl
  · simp
theorem cell_freeze (W : World) (a b : Addr) (n : Nat) : (W.freeze a n).cell? b = W.cell? b := by
  by_cases h : b.block = a.block
  · unfold World.freeze
    split
    · rfl
    · simp only [World.cell?, Array.getElem?_modify, h, if_true]
      cases W.heap[a.block]? with
      | none => rfl
      | some o => cases o <;> rfl
  · simp only [World.cell?, heap_freeze_other W a n b.block h]
theorem below_freeze {w0 W : World} {B : Nat} (h : Below B w0 W) (a : Addr) (n : Nat) (ha : B ≤ a.block) : Below B w0 (W.freeze a n) := by
  refine h.trans ⟨?_, ?_, ?_, by rw [size_freeze]; exact Nat.le_refl _, fun k hk => heap_freeze_other W a n k (by omega)⟩
  all_goals
    unfold World.freeze
    split <;> rfl
section
variable {P : Program} {ops : Array Oper} {Q : Exit → Act → World → Prop}
theorem run_mark {W : World} {t e : TypeId} {g n c : Nat} {cur : Array Value} (ht : P.underlying t = some (.slice e)) (he : P.underlying e = some (.int .u8)) (hg : W.heap[g]? = some (.cells cur e (0, 0))) :
    (convert t t (.slice (some ⟨g, 0, none⟩) n c)).run P W = .ok (.slice (some ⟨g, 0, none⟩) n c) (W.freeze ⟨g, cur.size, none⟩ 1) := by
  have hsh : W.shape? g = some (e, cur.size) := by
    unfold World.shape?
    rw [hg]
  simp [convert, run_underlying ht, run_underlying he, markStringish, hsh]
theorem conv_const_step {oi : Oper} {N : Option Tmp} {a : Act} {w0 W : World} {K : Act → World → Prop} {x : Operand} {t e : TypeId} {A : Option Addr} {c : Nat} {xs : List Int} {ok : Nat → Prop}
    (hw : Region.wanted oi (yielded ops a.tmps) = true) (hN : oi.dst = N) (ho : oi.op = .convert t t x) (ht : P.underlying t = some (.slice e)) (he : P.underlying e = some (.int .u8)) (hx : a.eval x = .slice A xs.length c)
    (hR : Kd.R (Kd.int .u8) e W w0.heap.size ok (.slice A xs.length c) xs) (hp : 0 < xs.length) (hb : Below w0.heap.size w0 W)
    (h : ∀ W', Below w0.heap.size w0 W' → Kd.C (Kd.int .u8) W' A xs.length xs → xs.length ≤ c → K (a.put N (.slice A xs.length c)) W') : if Region.wanted oi (yielded ops a.tmps) = true then Oper.wp P oi a W K Q else K (a.put N undef) W := by
  obtain ⟨_, hle, hC⟩ := Kd.R_reads' hR
  obtain ⟨_, inner, hown, _⟩ := hR
  rcases hown.2 with ⟨_, h0⟩ | ⟨g, cap, cur, hv, hbg, hg, _⟩
  · omega
  · injection hv with h1 h2 h3
    subst h1
    refine value_ (w1 := W.freeze ⟨g, cur.size, none⟩ 1) (v := .slice (some ⟨g, 0, none⟩) xs.length c) hw hN ?_ (h _ (below_freeze hb _ _ hbg) ?_ hle)
    · unfold execOp
      simp only [ho, hx, Sem.run_bind, run_mark ht he hg, Result.andThen_ok, Sem.run_pure]
    · have hr := Kd.reads_of_C (enc := Value.int .u8) (d := (0 : Int)) (h1 := fun _ => rfl) hC
      refine Kd.C_of_reads (d := (0 : Int)) (h1 := fun _ => rfl) ⟨hr.1, hr.2.1, fun hn => ?_⟩
      obtain ⟨ad, e1, hc⟩ := hr.2.2 hn
      exact ⟨ad, e1, fun j hj => by rw [cell_freeze]; exact hc j hj⟩
end

theorem results_tmp4 {fn : Func} {t u v x : Tmp} (h : fn.results = #[.tmp t, .tmp u, .tmp v, .tmp x]) (tmps : Array Value) (P : Program) (w : World) :
    (results fn tmps).run P w = .ok (.tuple #[tmps.getD t undef, tmps.getD u undef, tmps.getD v undef, tmps.getD x undef]) w := by
  simp [results, h]
theorem setCell_same_heap {w : World} {g : Nat} {cur : Array Value} {T : TypeId} {fr : Nat × Nat} (i : Nat) (v : Value) (h : w.heap[g]? = some (.cells cur T fr)) : (w.setCell ⟨g, i, none⟩ v).heap[g]? = some (.cells (cur.setIfInBounds i v) T fr) := by
  unfold World.setCell
  simp only [Array.getElem?_modify, if_true, h]
  rfl
theorem setCell_other_heap (w : World) {g k : Nat} (i : Nat) (v : Value) (h : g ≠ k) : (w.setCell ⟨g, i, none⟩ v).heap[k]? = w.heap[k]? := by
  unfold World.setCell
  simp only [Array.getElem?_modify, if_neg h]
theorem cell_of_heap {w : World} {g i : Nat} {cur : Array Value} {T : TypeId} {fr : Nat × Nat} (h : w.heap[g]? = some (.cells cur T fr)) : w.cell? ⟨g, i, none⟩ = cur[i]? := by
  simp [World.cell?, h]
theorem frozen_of_heap {w : World} {g i : Nat} {cur : Array Value} {T : TypeId} (h : w.heap[g]? = some (.cells cur T (0, 0))) : w.frozen? ⟨g, i, none⟩ = false := by
  simp [World.frozen?, h]
/-- A row of numbers in another block than the one that is written. -/
theorem C_setCell {k : IntKind} {w : World} {A : Option Addr} {n : Nat} {xs : List Int} (h : Kd.C (Kd.int k) w A n xs) (a : Addr) (v : Value) (hne : ∀ ad, A = some ad → ad.block ≠ a.block) : Kd.C (Kd.int k) (w.setCell a v) A n xs := by
  refine ⟨h.1, h.2.1, fun hn => ?_⟩
  obtain ⟨ad, e, hc⟩ := h.2.2 hn
  refine ⟨ad, e, fun j p hj => ?_⟩
  obtain ⟨c, h1, h2, h3⟩ := hc j p hj
  refine ⟨c, h1, h2, fun i u hu => ?_⟩
  rw [World.cell?_setCell_other _ _ _ _ (fun e2 => hne ad e (by rw [e2]; unfold Addr.add; split <;> rfl))]
  exact h3 i u hu
/-- A slice of whatever make, as it stands. -/
theorem AnyRow.form {w : World} {base : Nat} {v : Value} {n : Nat} {xs : List Value} (h : AnyRow w base 1 v n xs) : ∃ A cap, v = .slice A n cap ∧ n ≤ cap ∧ (0 < n → ∃ g, A = some ⟨g, 0, none⟩ ∧ base ≤ g ∧ g < w.heap.size ∧ ∀ j u, xs[j]? = some u → w.cell? ⟨g, j, none⟩ = some u) := by
  have h0 := h
  rcases h.2 with ⟨rfl, hn⟩ | ⟨g, cap, cur, T, rfl, hb, hgg, h4, h5, _, htake⟩
  · subst hn
    exact ⟨none, 0, rfl, Nat.le_refl _, fun h => absurd h (by omega)⟩
  · refine ⟨_, cap, rfl, h4, fun hp => ⟨g, rfl, hb, (Array.getElem?_eq_some_iff.1 hgg).1, fun j u hu => ?_⟩⟩
    have := h0.cells (g := g) rfl j u hu
    rwa [add_plain] at this
def strs32 : Array Value := #[.string ⟨#[]⟩, .string ⟨#[]⟩, .string ⟨#[]⟩, .string ⟨#[]⟩, .string ⟨#[]⟩, .string ⟨#[]⟩, .string ⟨#[]⟩, .string ⟨#[]⟩, .string ⟨#[]⟩, .string ⟨#[]⟩, .string ⟨#[]⟩, .string ⟨#[]⟩, .string ⟨#[]⟩, .string ⟨#[]⟩, .string ⟨#[]⟩, .string ⟨#[]⟩, .string ⟨#[]⟩, .string ⟨#[]⟩, .string ⟨#[]⟩, .string ⟨#[]⟩, .string ⟨#[]⟩, .string ⟨#[]⟩, .string ⟨#[]⟩, .string ⟨#[]⟩, .string ⟨#[]⟩, .string ⟨#[]⟩, .string ⟨#[]⟩, .string ⟨#[]⟩, .string ⟨#[]⟩, .string ⟨#[]⟩, .string ⟨#[]⟩, .string ⟨#[]⟩]
theorem strs32_one : strs32.all (·.oneCell') = true := by kernel_rfl
theorem strs32_row (w : World) (base : Nat) (T : TypeId) (h : base ≤ w.heap.size) : AnyRow (w.alloc (.cells strs32 T)) base 1 (.slice (some ⟨w.heap.size, 0, none⟩) 0 32) 0 [] :=
  AnyRow.start h (heap_alloc_new w (.cells strs32 T)) (by unfold maxLen; omega) rfl

theorem size_lit (a : Array UInt8) : (ByteArray.mk a).size = a.size := rfl

end Go.Proofs.YtcnbnljlopopkaaDoor.Road
