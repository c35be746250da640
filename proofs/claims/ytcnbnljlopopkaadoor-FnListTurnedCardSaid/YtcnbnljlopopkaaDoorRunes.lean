/-
  Walks over a text by runes: what a rune of ASCII makes is a byte of ASCII, so a search for bytes of ASCII by runes finds what a search by bytes finds.
-/
import Derived.Test.YtcnbnljlopopkaaDoorRoad
import Derived.Laws.RangeString
import Derived.Laws.RangeAny
import Derived.Lib.OthersKept
namespace Go.Proofs.YtcnbnljlopopkaaDoor.Road
open Go Go.RowKit Go.Proofs.YtcnbnljlopopkaaDoorW.PrintWords Go.Proofs.YtcnbnljlopopkaaDoorW.PrintLast

theorem getB (s : ByteArray) (i : Nat) (h : i < s.size) : s.get! i = (bl s)[i]'(by rw [bl_len]; exact h) := by
  show s.data[i]! = _
  have h' : i < s.data.size := h
  rw [getElem!_pos s.data i h']
  simp [bl]

theorem idxB (s : ByteArray) (i : Nat) (h : i < s.size) : s[i]'h = (bl s)[i]'(by rw [bl_len]; exact h) := by
  have h' : i < s.data.size := h
  simp [bl]
  rfl

theorem decode_cover (s : ByteArray) (pos : Nat) (h : pos < s.size) (ha : 128 ≤ (s.get! pos).toNat) (j : Nat) (hj : j < (Utf8.decode s pos).2) : pos + j < s.size ∧ 128 ≤ (s.get! (pos + j)).toNat := by
  have hn : ¬ (s.get! (pos + 0)).toNat < 128 := by simpa using ha
  have hn0 : 128 ≤ (s.get! (pos + 0)).toNat := by simpa using ha
  simp only [Utf8.decode, hn, if_false] at hj
  have e0 : j = 0 → pos + j < s.size ∧ 128 ≤ (s.get! (pos + j)).toNat := by rintro rfl; exact ⟨by omega, hn0⟩
  split at hj
  · rename_i h1
    simp only [Bool.and_eq_true, beq_iff_eq, decide_eq_true_eq] at h1
    obtain ⟨_, h1, h2⟩ := h1
    have e1 : j = 1 → pos + j < s.size ∧ 128 ≤ (s.get! (pos + j)).toNat := by rintro rfl; exact ⟨by omega, by omega⟩
    split at hj
    · match j, hj with
      | 0, _ => exact e0 rfl
      | 1, _ => exact e1 rfl
    · exact e0 (by simp at hj; exact hj)
  · split at hj
    · rename_i h1
      simp only [Bool.and_eq_true, beq_iff_eq, decide_eq_true_eq] at h1
      obtain ⟨⟨_, h1, h2⟩, h3, h4⟩ := h1
      have e1 : j = 1 → pos + j < s.size ∧ 128 ≤ (s.get! (pos + j)).toNat := by rintro rfl; exact ⟨by omega, by omega⟩
      have e2 : j = 2 → pos + j < s.size ∧ 128 ≤ (s.get! (pos + j)).toNat := by rintro rfl; exact ⟨by omega, by omega⟩
      split at hj
      · match j, hj with
        | 0, _ => exact e0 rfl
        | 1, _ => exact e1 rfl
        | 2, _ => exact e2 rfl
      · exact e0 (by simp at hj; exact hj)
    · split at hj
      · rename_i h1
        simp only [Bool.and_eq_true, beq_iff_eq, decide_eq_true_eq] at h1
        obtain ⟨⟨⟨_, h1, h2⟩, h3, h4⟩, h5, h6⟩ := h1
        have e1 : j = 1 → pos + j < s.size ∧ 128 ≤ (s.get! (pos + j)).toNat := by rintro rfl; exact ⟨by omega, by omega⟩
        have e2 : j = 2 → pos + j < s.size ∧ 128 ≤ (s.get! (pos + j)).toNat := by rintro rfl; exact ⟨by omega, by omega⟩
        have e3 : j = 3 → pos + j < s.size ∧ 128 ≤ (s.get! (pos + j)).toNat := by rintro rfl; exact ⟨by omega, by omega⟩
        split at hj
        · match j, hj with
          | 0, _ => exact e0 rfl
          | 1, _ => exact e1 rfl
          | 2, _ => exact e2 rfl
          | 3, _ => exact e3 rfl
        · exact e0 (by simp at hj; exact hj)
      · exact e0 (by simp at hj; exact hj)

theorem decode_one (s : ByteArray) (pos : Nat) (h : pos < s.size) : 1 ≤ (Utf8.decode s pos).2 := by
  by_cases ha : (s[pos]'h).toNat < 128
  · rw [decode_ascii s pos h ha]
    exact Nat.le_refl _
  · exact (decode_high s pos h (by omega)).2

/-- A rune of ASCII at a place just if the byte there is it. -/
theorem decode_is (s : ByteArray) (pos : Nat) (h : pos < s.size) (x : UInt8) (hx : x.toNat < 128) : ((Utf8.decode s pos).1 : Int) = x.toNat ↔ (bl s)[pos]'(by rw [bl_len]; exact h) = x := by
  have e := idxB s pos h
  by_cases ha : (s[pos]'h).toNat < 128
  · rw [decode_ascii s pos h ha, ← e]
    constructor
    · intro g
      exact UInt8.toNat_inj.1 (by simp only [Int.natCast_inj] at g; exact g)
    · rintro g
      rw [g]
  · have g := decode_high s pos h (by omega)
    constructor
    · intro h1; omega
    · intro h1; rw [e, h1] at ha; omega

def asciiB (l : Bs) : Bool := l.all (fun x => x.toNat < 128)
def hasB (s chars : Bs) : Bool := s.any (fun x => chars.any (fun y => y == x))

/-- Behind these many bytes none of the given ones came. -/
def RunesAt (s chars : ByteArray) (pos : Nat) : Prop := pos ≤ s.size ∧ ∀ i (hi : i < (bl s).length), i < pos → (bl s)[i] ∉ bl chars

theorem RunesAt.start (s chars : ByteArray) : RunesAt s chars 0 := ⟨by omega, fun _ _ h => absurd h (by omega)⟩
theorem RunesAt.miss {s chars : ByteArray} {pos : Nat} (h : RunesAt s chars pos) (hp : pos < s.size) (hA : asciiB (bl chars) = true) (hm : ∀ x ∈ bl chars, ((Utf8.decode s pos).1 : Int) ≠ x.toNat) : RunesAt s chars (pos + (Utf8.decode s pos).2) := by
  have hlo : ∀ x ∈ bl chars, x.toNat < 128 := fun x hx => by simpa using List.all_eq_true.1 hA x hx
  have hl := bl_len s
  by_cases ha : (s[pos]'hp).toNat < 128
  · have e : (Utf8.decode s pos).2 = 1 := by rw [decode_ascii s pos hp ha]
    rw [e]
    refine ⟨by omega, fun i hi hip => ?_⟩
    by_cases h1 : i < pos
    · exact h.2 i hi h1
    · have : i = pos := by omega
      subst this
      intro hmem
      exact hm _ hmem ((decode_is s i hp _ (hlo _ hmem)).2 rfl)
  · have hc := decode_cover s pos hp (by rw [getB s pos hp, ← idxB s pos hp]; omega)
    have h1 := decode_one s pos hp
    have hlast := (hc ((Utf8.decode s pos).2 - 1) (by omega)).1
    refine ⟨by omega, fun i hi hip => ?_⟩
    by_cases h1 : i < pos
    · exact h.2 i hi h1
    · intro hmem
      have := hlo _ hmem
      have g := hc (i - pos) (by omega)
      rw [show pos + (i - pos) = i by omega, getB s i (by omega)] at g
      omega
theorem RunesAt.done {s chars : ByteArray} {pos : Nat} (h : RunesAt s chars pos) (hp : ¬ pos < s.size) : hasB (bl s) (bl chars) = false := by
  have hl := bl_len s
  rw [hasB, List.any_eq_false]
  intro x hx hy
  obtain ⟨i, hi, rfl⟩ := List.getElem_of_mem hx
  simp only [List.any_eq_true, beq_iff_eq] at hy
  obtain ⟨y, hy, rfl⟩ := hy
  exact h.2 i hi (by omega) hy
theorem hasB_at {s chars : ByteArray} {pos p : Nat} (hp : pos < s.size) (hq : p < chars.size) (hA : asciiB (bl chars) = true) (he : ((Utf8.decode s pos).1 : Int) = ((bl chars)[p]'(by rw [bl_len]; exact hq)).toNat) : hasB (bl s) (bl chars) = true := by
  have hq' : p < (bl chars).length := by rw [bl_len]; exact hq
  have hmem : (bl chars)[p] ∈ bl chars := List.getElem_mem hq'
  have hlo : ((bl chars)[p]).toNat < 128 := by simpa using List.all_eq_true.1 hA _ hmem
  have g := (decode_is s pos hp _ hlo).1 he
  rw [hasB, List.any_eq_true]
  refine ⟨_, List.getElem_mem (by rw [bl_len]; exact hp), ?_⟩
  rw [g, List.any_eq_true]
  exact ⟨_, hmem, by simp⟩
theorem decode_chars {chars : ByteArray} {p : Nat} (hq : p < chars.size) (hA : asciiB (bl chars) = true) : Utf8.decode chars p = (((bl chars)[p]'(by rw [bl_len]; exact hq)).toNat, 1) := by
  have hq' : p < (bl chars).length := by rw [bl_len]; exact hq
  have hlo : ((bl chars)[p]).toNat < 128 := by simpa using List.all_eq_true.1 hA _ (List.getElem_mem hq')
  have e := idxB chars p hq
  rw [decode_ascii chars p hq (by rw [e]; exact hlo), e]

/-- None of these many of the given bytes is the rune. -/
def CharsAt (chars : ByteArray) (c : Int) (p : Nat) : Prop := p ≤ chars.size ∧ ∀ i (hi : i < (bl chars).length), i < p → c ≠ ((bl chars)[i]).toNat
theorem CharsAt.start (chars : ByteArray) (c : Int) : CharsAt chars c 0 := ⟨by omega, fun _ _ h => absurd h (by omega)⟩
theorem CharsAt.next {chars : ByteArray} {c : Int} {p : Nat} (h : CharsAt chars c p) (hq : p < chars.size) (hc : ¬ c = ((bl chars)[p]'(by rw [bl_len]; exact hq)).toNat) : CharsAt chars c (p + 1) :=
  ⟨by omega, fun i hi hip => by
    by_cases h1 : i < p
    · exact h.2 i hi h1
    · have : i = p := by omega
      subst this
      exact hc⟩
theorem CharsAt.all {chars : ByteArray} {c : Int} {p : Nat} (h : CharsAt chars c p) (hq : ¬ p < chars.size) : ∀ x ∈ bl chars, c ≠ x.toNat := by
  intro x hx
  obtain ⟨i, hi, rfl⟩ := List.getElem_of_mem hx
  have hl := bl_len chars
  exact h.2 i hi (by omega)

/-- Only the iterator of a text has moved on. -/
theorem iter_pos (w : World) (k : Nat) (s : ByteArray) (p : Nat) (h : w.heap[k]? = some (.stringIter s p)) : w.iterPos k = p := by
  simp [World.iterPos, h]
theorem iter_new (w : World) (s : ByteArray) : (w.iter s 0).heap[w.heap.size]? = some (.stringIter s 0) := World.iter_heap w s 0
theorem iter_old (w : World) (s : ByteArray) (p k : Nat) (o : Obj) (h : w.heap[k]? = some o) : (w.iter s p).heap[k]? = some o := by
  have hlt : k < w.heap.size := (Array.getElem?_eq_some_iff.1 h).1
  show (w.heap.push _)[k]? = _
  rw [Array.getElem?_push, if_neg (by omega)]
  exact h
theorem below_iter {a w : World} (h : Below a.heap.size a w) (s : ByteArray) (p : Nat) : Below a.heap.size a (w.iter s p) := h.alloc h.size _

/-! ### A subject's check, part by part -/
def wsB : ByteArray := ⟨#[9, 10, 12, 13, 32]⟩
theorem ws_ascii : asciiB (bl wsB) = true := by decide
theorem hasB_ws (t : Bs) : hasB t (bl wsB) = spacedB t := by
  unfold hasB spacedB
  congr 1
  funext x
  have e : bl wsB = [9, 10, 12, 13, 32] := rfl
  rw [e]
  simp only [List.any_cons, List.any_nil, blankB, Bool.or_false]
  have h9 : ((9 : UInt8) == x) = (x == 9) := Bool.beq_comm
  have h10 : ((10 : UInt8) == x) = (x == 10) := Bool.beq_comm
  have h12 : ((12 : UInt8) == x) = (x == 12) := Bool.beq_comm
  have h13 : ((13 : UInt8) == x) = (x == 13) := Bool.beq_comm
  have h32 : ((32 : UInt8) == x) = (x == 32) := Bool.beq_comm
  rw [h9, h10, h12, h13, h32]
  generalize (x == 9) = p1
  generalize (x == 10) = p2
  generalize (x == 12) = p3
  generalize (x == 13) = p4
  generalize (x == 32) = p5
  revert p1 p2 p3 p4 p5
  decide
theorem toks_spaced (p l : Bs) : (toks p l).any spacedB = (spacedB p || spacedB l) := by
  induction l generalizing p with
  | nil => simp [toks, spacedB]
  | cons c l ih =>
    rw [toks]
    split
    · rename_i h
      subst h
      rw [List.any_cons, ih]
      simp [spacedB, blankB]
    · rw [ih]
      simp [spacedB, Bool.or_assoc]
/-- How many are left, by the counter's value. -/
def leftOf (n : Nat) : Value → Nat
  | .int _ i => n - i.toNat
  | _ => 0
theorem leftOf_lt {n i : Nat} {k : IntKind} (h : i < n) : leftOf n (.int k ((i + 1 : Nat) : Int)) < leftOf n (.int k (i : Int)) := by
  simp only [leftOf, Int.toNat_natCast]
  omega
def blankI (c : Int) : Bool := c == 32 || c == 9 || c == 10 || c == 13 || c == 12
def vf (sf : Bool) : List ByteArray → Bool
  | [] => true
  | t :: ts => if t.size = 0 ∨ sf = true then false else if 1 < t.size then (if hasB (bl t) (bl wsB) = true then false else vf sf ts) else if bt t 0 = 62 then vf true ts else if blankI (bt t 0) = true then false else vf sf ts
theorem vf_true (L : List Bs) : vf true (L.map mkB) = decide (L = []) := by
  cases L with
  | nil => rfl
  | cons t ts => simp [vf]
theorem blankI_mkB (c : UInt8) : blankI (bt (mkB [c]) 0) = blankB c := by
  have h : bt (mkB [c]) 0 = (c.toNat : Int) := by
    have := bt_get (mkB [c]) 0 (by rw [bl_mkB]; simp)
    simpa [bl_mkB] using this
  rw [h]
  unfold blankI blankB
  have e : ∀ n : Nat, n < 256 → (((c.toNat : Int) == (n : Int)) = (c == UInt8.ofNat n)) := by
    intro n hn
    rw [Bool.eq_iff_iff, beq_iff_eq, beq_iff_eq]
    exact u8_eq c n hn
  have e1 := e 32 (by decide)
  have e2 := e 9 (by decide)
  have e3 := e 10 (by decide)
  have e4 := e 13 (by decide)
  have e5 := e 12 (by decide)
  exact by simpa using (show _ from by rw [show ((32 : Int)) = ((32 : Nat) : Int) from rfl, show ((9 : Int)) = ((9 : Nat) : Int) from rfl, show ((10 : Int)) = ((10 : Nat) : Int) from rfl, show ((13 : Int)) = ((13 : Nat) : Int) from rfl, show ((12 : Int)) = ((12 : Nat) : Int) from rfl, e1, e2, e3, e4, e5] <;> rfl)
theorem vf_false (L : List Bs) : vf false (L.map mkB) = (formedB L && !L.any spacedB) := by
  induction L with
  | nil => rfl
  | cons t ts ih =>
    rw [List.map_cons, vf, size_mkB, bl_mkB, hasB_ws, formedB, List.any_cons]
    match t with
    | [] => simp
    | [c] =>
      rw [blankI_mkB, show spacedB [c] = blankB c by simp [spacedB], vf_true]
      have h62 : bt (mkB [c]) 0 = 62 ↔ c = 62 := by
        have := bt_get (mkB [c]) 0 (by rw [bl_mkB]; simp)
        simp only [bl_mkB] at this
        rw [show (0 : Int) = ((0 : Nat) : Int) from rfl, this]
        exact u8_eq c 62 (by decide)
      by_cases h : c = 62
      · subst h
        simp only [h62]
        cases ts <;> simp [formedB, blankB]
      · simp only [h62, h]
        simp only [List.cons.injEq, h, false_and, if_false, List.length_singleton]
        cases hb : blankB c <;> simp [ih]
    | c :: d :: t =>
      simp only [ih]
      cases hb : spacedB (c :: d :: t) <;> simp
theorem vf_valid (s : ByteArray) : vf false (tokB s) = sValidB (bl s) := by
  rw [tokB, vf_false, sValidB, toks_spaced]
  simp [spacedB]
theorem sum_mem {x : Nat} {L : List Nat} (h : x ∈ L) : x ≤ L.sum := by
  induction L with
  | nil => simp at h
  | cons y L ih =>
    rw [List.sum_cons]
    rcases List.mem_cons.1 h with rfl | h
    · omega
    · have := ih h
      omega
theorem tokB_size {s t : ByteArray} (h : t ∈ tokB s) : t.size ≤ s.size := by
  obtain ⟨l, hl, rfl⟩ := List.mem_map.1 h
  rw [size_mkB, ← bl_len]
  have hs := toks_len [] (bl s)
  have : l.length + 1 ≤ ((toks [] (bl s)).map fun t => t.length + 1).sum := sum_mem (List.mem_map.2 ⟨l, hl, rfl⟩)
  simp at hs
  omega

/-! ### A text without a wildcard of its own -/
def notW (t : Bs) : Bool := !(t == [42] || t == [62])
/-- A wildcard at a part's first place, the part's last. -/
def litL (start : Bool) : Bs → Bool
  | [] => true
  | c :: l => if (c = 42 ∨ c = 62) ∧ start = true ∧ (l = [] ∨ l.head? = some 46) then false else litL (decide (c = 46)) l
theorem litL_toks (l : Bs) : (∀ p, ((toks p l).tail.all notW) = litL false l) ∧ ((toks [] l).all notW = litL true l) := by
  induction l with
  | nil => exact ⟨fun p => by simp [toks, litL], by simp [toks, litL, notW]⟩
  | cons c l ih =>
    by_cases hc : c = 46
    · subst hc
      have h1 : ¬ ((46 : UInt8) = 42 ∨ (46 : UInt8) = 62) := by decide
      refine ⟨fun p => ?_, ?_⟩
      · rw [toks, if_pos rfl, litL, if_neg (fun h => h1 h.1), List.tail_cons, ih.2]
        rfl
      · rw [toks, if_pos rfl, litL, if_neg (fun h => h1 h.1), List.all_cons, ih.2]
        simp [notW]
    · refine ⟨fun p => ?_, ?_⟩
      · rw [toks, if_neg hc, litL, if_neg (fun h => by simp at h), ih.1]
        simp [hc]
      · rw [toks, if_neg hc, litL]
        have hd : decide (c = 46) = false := by simp [hc]
        rw [hd, ← ih.1 ([] ++ [c])]
        obtain ⟨t, ts, h1, h2⟩ := toks_pre [c] [] l
        simp only [List.append_nil] at h2
        rw [List.nil_append, h2, List.all_cons, List.tail_cons]
        have ht : (t = [] ↔ (l = [] ∨ l.head? = some 46)) := by
          cases l with
          | nil => simp [toks] at h1; simp [h1.1]
          | cons d l =>
            by_cases hd : d = 46
            · subst hd
              simp only [toks, if_true] at h1
              simp [(List.cons.inj h1).1.symm]
            · rw [toks, if_neg hd] at h1
              obtain ⟨t2, ts2, g1, g2⟩ := toks_pre [d] [] l
              simp only [List.append_nil] at g2
              rw [List.nil_append, g2] at h1
              have := (List.cons.inj h1).1
              simp [← this, hd]
        by_cases h3 : (c = 42 ∨ c = 62) ∧ (l = [] ∨ l.head? = some 46)
        · rw [if_pos ⟨h3.1, rfl, h3.2⟩, (ht.2 h3.2)]
          rcases h3.1 with rfl | rfl <;> simp [notW]
        · rw [if_neg (fun h => h3 ⟨h.1, h.2.2⟩)]
          have : notW ([c] ++ t) = true := by
            by_cases ht0 : t = []
            · subst ht0
              have h4 : ¬ (c = 42 ∨ c = 62) := fun h => h3 ⟨h, ht.1 rfl⟩
              simp only [not_or] at h4
              simp [notW, h4.1, h4.2]
            · simp [notW, ht0]
          rw [this, Bool.true_and]

def startAt (l : Bs) (pos : Nat) : Bool := decide (pos = 0 ∨ l[pos - 1]? = some 46)
theorem litL_step (l : Bs) (pos : Nat) (h : pos < l.length) (hn : ¬ ((l[pos] = 42 ∨ l[pos] = 62) ∧ startAt l pos = true ∧ (pos + 1 = l.length ∨ l[pos + 1]? = some 46))) : litL (startAt l pos) (l.drop pos) = litL (startAt l (pos + 1)) (l.drop (pos + 1)) := by
  rw [List.drop_eq_getElem_cons h, litL, if_neg]
  · congr 1
    simp [startAt, List.getElem?_eq_getElem h]
  · rintro ⟨h1, h2, h3⟩
    refine hn ⟨h1, h2, ?_⟩
    rcases h3 with h3 | h3
    · left
      have := congrArg List.length h3
      simp at this
      omega
    · right
      rw [List.head?_drop] at h3
      exact h3
theorem litL_high (l : Bs) (pos w : Nat) (h : ∀ j, j < w → ∃ hj : pos + j < l.length, 128 ≤ (l[pos + j]'hj).toNat) : litL (startAt l pos) (l.drop pos) = litL (startAt l (pos + w)) (l.drop (pos + w)) := by
  induction w with
  | zero => rfl
  | succ w ih =>
    rw [ih (fun j hj => h j (by omega))]
    obtain ⟨hj, hh⟩ := h w (by omega)
    refine litL_step l (pos + w) hj (fun g => ?_)
    rcases g.1 with g | g <;> rw [g] at hh <;> exact absurd hh (by decide)
def LitAt (s : ByteArray) (r : Bool) (pos : Nat) : Prop := pos ≤ s.size ∧ litL (startAt (bl s) pos) ((bl s).drop pos) = r
theorem LitAt.start {s : ByteArray} {r : Bool} (h : litL true (bl s) = r) : LitAt s r 0 := ⟨by omega, by simpa [startAt] using h⟩
theorem LitAt.done {s : ByteArray} {r : Bool} {pos : Nat} (h : LitAt s r pos) (hp : ¬ pos < s.size) : r = true := by
  have hl := bl_len s
  have := h.2
  rw [List.drop_eq_nil_of_le (by omega), litL] at this
  exact this.symm
theorem bt_is (s : ByteArray) (i n : Nat) (hn : n < 256) (h : i < s.size) : bt s (i : Int) = (n : Int) ↔ (bl s)[i]? = some (UInt8.ofNat n) := by
  have hl : i < (bl s).length := by rw [bl_len]; exact h
  rw [bt_get s i hl, List.getElem?_eq_getElem hl, Option.some.injEq]
  exact u8_eq _ n hn
def litStart (s : ByteArray) (pos : Nat) : Prop := (pos : Int) = 0 ∨ bt s (wrap64 ((pos : Int) - 1)) = 46
def litEnd (s : ByteArray) (pos : Nat) : Prop := wrap64 ((pos : Int) + 1) = (s.size : Int) ∨ bt s (wrap64 ((pos : Int) + 1)) = 46
theorem litStart_is {s : ByteArray} {pos : Nat} (hs : s.size ≤ 2147483647) (hp : pos < s.size) : startAt (bl s) pos = true ↔ litStart s pos := by
  unfold startAt litStart
  rw [decide_eq_true_eq]
  by_cases h0 : pos = 0
  · subst h0; simp
  · have e : wrap64 ((pos : Int) - 1) = ((pos - 1 : Nat) : Int) := by unfold wrap64; omega
    rw [e, show (46 : Int) = ((46 : Nat) : Int) from rfl, bt_is s (pos - 1) 46 (by decide) (by omega)]
    constructor
    · rintro (h | h)
      · exact absurd h h0
      · exact Or.inr h
    · rintro (h | h)
      · omega
      · exact Or.inr h
theorem litEnd_is {s : ByteArray} {pos : Nat} (hs : s.size ≤ 2147483647) (hp : pos < s.size) : (pos + 1 = (bl s).length ∨ (bl s)[pos + 1]? = some 46) ↔ litEnd s pos := by
  unfold litEnd
  have hl := bl_len s
  have e : wrap64 ((pos : Int) + 1) = ((pos + 1 : Nat) : Int) := by unfold wrap64; omega
  rw [e]
  by_cases h0 : pos + 1 = s.size
  · simp [h0, hl]
  · rw [show (46 : Int) = ((46 : Nat) : Int) from rfl, bt_is s (pos + 1) 46 (by decide) (by omega)]
    constructor
    · rintro (h | h)
      · omega
      · exact Or.inr h
    · rintro (h | h)
      · omega
      · exact Or.inr h
theorem LitAt.hit {s : ByteArray} {r : Bool} {pos : Nat} (hs : s.size ≤ 2147483647) (h : LitAt s r pos) (hp : pos < s.size) (hw : ((Utf8.decode s pos).1 : Int) = 42 ∨ ((Utf8.decode s pos).1 : Int) = 62) (h1 : litStart s pos) (h2 : litEnd s pos) : r = false := by
  have hl : pos < (bl s).length := by rw [bl_len]; exact hp
  have g := h.2
  rw [List.drop_eq_getElem_cons hl, litL, if_pos] at g
  · exact g.symm
  · refine ⟨?_, (litStart_is hs hp).2 h1, ?_⟩
    · rcases hw with hw | hw
      · exact Or.inl ((decode_is s pos hp 42 (by decide)).1 hw)
      · exact Or.inr ((decode_is s pos hp 62 (by decide)).1 hw)
    · rcases (litEnd_is hs hp).2 h2 with h3 | h3
      · left
        exact List.drop_eq_nil_of_le (by omega)
      · right
        rw [List.head?_drop]
        exact h3
theorem LitAt.miss {s : ByteArray} {r : Bool} {pos : Nat} (hs : s.size ≤ 2147483647) (h : LitAt s r pos) (hp : pos < s.size) (hn : ¬ ((((Utf8.decode s pos).1 : Int) = 42 ∨ ((Utf8.decode s pos).1 : Int) = 62) ∧ litStart s pos ∧ litEnd s pos)) : LitAt s r (pos + (Utf8.decode s pos).2) := by
  have hl := bl_len s
  by_cases ha : (s[pos]'hp).toNat < 128
  · have e : (Utf8.decode s pos).2 = 1 := by rw [decode_ascii s pos hp ha]
    rw [e]
    refine ⟨by omega, ?_⟩
    rw [← h.2]
    refine (litL_step (bl s) pos (by omega) (fun g => hn ⟨?_, (litStart_is hs hp).1 g.2.1, (litEnd_is hs hp).1 g.2.2⟩)).symm
    rcases g.1 with g | g
    · exact Or.inl ((decode_is s pos hp 42 (by decide)).2 g)
    · exact Or.inr ((decode_is s pos hp 62 (by decide)).2 g)
  · have hc := decode_cover s pos hp (by rw [getB s pos hp, ← idxB s pos hp]; omega)
    have h1 := decode_one s pos hp
    have hlast := (hc ((Utf8.decode s pos).2 - 1) (by omega)).1
    refine ⟨by omega, ?_⟩
    rw [← h.2]
    refine (litL_high (bl s) pos _ (fun j hj => ?_)).symm
    have g := hc j hj
    exact ⟨by omega, by rw [← getB s (pos + j) g.1]; exact g.2⟩
end Go.Proofs.YtcnbnljlopopkaaDoor.Road
