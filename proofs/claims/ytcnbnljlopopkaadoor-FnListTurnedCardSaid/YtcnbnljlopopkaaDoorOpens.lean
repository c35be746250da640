/- Arguments opened into the printed kinds: numbers, bools, texts, structs, rows of any of these. No condition. -/
import Derived.Test.YtcnbnljlopopkaaDoorWNEv
import Derived.Test.YtcnbnljlopopkaaDoorWMore
import Derived.Deep.Slices
import Derived.ChangeArms
namespace Go.Proofs.YtcnbnljlopopkaaDoor.Opens
open Go.RowKit Go.ChangeShapes Go.WideShapes Go.Deep Go.Proofs.YtcnbnljlopopkaaDoorW.PrintWords Go.Proofs.YtcnbnljlopopkaaDoorW.PrintLast Go.Proofs.YtcnbnljlopopkaaDoorW.PrintMore
set_option linter.unusedVariables false
set_option linter.unusedSimpArgs false
/-- Whatever lies there in the type t is a datum of the kind k, of which ok is known. -/
def Opens (P : Program) (t : TypeId) {α : Type} (k : Kd α) (ok : α → Prop) : Prop :=
  ∀ (H : Type) (enc : TypeId × Value → H) (w : World) (base : Nat) (spare : Nat → Bool) (held : Bool) (fuel : Nat) (cs : List Value) (y : DataW H × List MemPlace),
    DataW.trod enc P w base spare held fuel t cs = some y → ∃ x : α, k.K w x cs ∧ ok x
/-- The fields from one on. -/
def OpensF (P : Program) (fs : List Field) (off : Nat) {α : Type} (k : Kd α) (ok : α → Prop) : Prop :=
  ∀ (H : Type) (enc : TypeId × Value → H) (w : World) (base : Nat) (spare : Nat → Bool) (held : Bool) (fuel : Nat) (cs : List Value),
    cs.length = off + k.sz → (∀ (i : Nat) (f : Field), fs[i]? = some f → ∃ y, DataW.trod enc P w base spare held fuel f.type ((cs.drop f.offset).take (P.cellsOf f.type)) = some y) → ∃ x : α, k.K w x (cs.drop off) ∧ ok x
section
variable {P : Program} {t e : TypeId}
theorem Opens.int {k : IntKind} (ht : P.underlying t = some (.int k)) : Opens P t (Kd.int k) (fun x => (Lit.int k x).wf = true) := by
  intro H enc w base spare held fuel cs y h
  obtain ⟨n, rfl, _, hw⟩ := DataW.trod_int ht h
  exact ⟨n, rfl, hw⟩
theorem Opens.bool (ht : P.underlying t = some .bool) : Opens P t Kd.bool (fun _ => True) := by
  intro H enc w base spare held fuel cs y h
  obtain ⟨n, rfl, _⟩ := DataW.trod_bool ht h
  exact ⟨n, rfl, trivial⟩
theorem Opens.string (ht : P.underlying t = some .string) : Opens P t Kd.string (fun s => s.size ≤ maxLen) := by
  intro H enc w base spare held fuel cs y h
  obtain ⟨n, rfl, _, hs⟩ := DataW.trod_string ht h
  exact ⟨n, rfl, hs⟩
theorem Opens.iso {α β : Type} {k : Kd α} {ok : α → Prop} (h : Opens P t k ok) (f : β → α) (g : α → β) (hg : ∀ x, f (g x) = x) : Opens P t (Kd.iso k f) (fun x => ok (f x)) := by
  intro H enc w base spare held fuel cs y hh
  obtain ⟨x, hx, ho⟩ := h H enc w base spare held fuel cs y hh
  exact ⟨g x, by show k.K w (f (g x)) cs; rw [hg]; exact hx, by show ok (f (g x)); rw [hg]; exact ho⟩
theorem listed {α : Type} (Q : Nat → α → Prop) : ∀ n : Nat, (∀ i, i < n → ∃ x, Q i x) → ∃ xs : List α, xs.length = n ∧ ∀ i x, xs[i]? = some x → Q i x := by
  intro n
  induction n with
  | zero => intro _; exact ⟨[], rfl, fun i x h => by simp at h⟩
  | succ n ih =>
    intro h
    obtain ⟨xs, hl, hx⟩ := ih (fun i hi => h i (by omega))
    obtain ⟨x, hq⟩ := h n (by omega)
    refine ⟨xs ++ [x], by simp [hl], fun i z hz => ?_⟩
    rcases Nat.lt_or_ge i xs.length with hi | hi
    · rw [List.getElem?_append_left hi] at hz
      exact hx i z hz
    · rw [List.getElem?_append_right hi] at hz
      have : i - xs.length = 0 := by
        rcases Nat.eq_zero_or_pos (i - xs.length) with h0 | h0
        · exact h0
        · rw [List.getElem?_eq_none (by simp; omega)] at hz; simp at hz
      rw [this] at hz
      simp at hz
      subst hz
      have : i = n := by omega
      subst this
      exact hq
theorem Opens.slice {α : Type} {k : Kd α} {ok : α → Prop} (ht : P.underlying t = some (.slice e)) (he : Opens P e k ok) (hs : P.cellsOf e = k.sz) : Opens P t (Kd.slice e k) (fun l => l.length ≤ maxLen ∧ ∀ x ∈ l, ok x) := by
  intro H enc w base spare held fuel cs y h
  rcases open_slice ht h with ⟨rfl, _⟩ | ⟨a, len, cap, m, n, D, Pl, rfl, hb, hl, hm, hmm, _, hi⟩
  · exact ⟨[], ⟨none, 0, rfl, Nat.le_refl _, ⟨rfl, by simp, fun h => absurd h (by simp)⟩⟩, by simp, by simp⟩
  · have hlm : len ≤ m := by rw [hmm]; split <;> omega
    obtain ⟨xs, hxl, hx⟩ := listed (fun i (x : α) => ok x ∧ ∃ c : List Value, c.length = k.sz ∧ k.K w x c ∧ ∀ j u, c[j]? = some u → w.cell? (a.add (i * k.sz + j)) = some u) len (fun i him => by
      obtain ⟨cs', hc, htr⟩ := hi i (by omega)
      obtain ⟨x, hK, ho⟩ := he H enc w base spare held n cs' _ htr
      obtain ⟨_, hcl, hat⟩ := World.cells?_some hc
      refine ⟨x, ho, cs', by rw [hcl, hs], hK, fun j u hu => ?_⟩
      have hj : j < cs'.length := (List.getElem?_eq_some_iff.1 hu).1
      have := hat j (by omega)
      rw [hu, hs, Go.Deep.add_add] at this
      exact this)
    subst hxl
    refine ⟨xs, ⟨some a, cap, rfl, hl, ⟨rfl, by unfold maxLen at hm; omega, fun _ => ⟨a, rfl, fun j p hp => ?_⟩⟩⟩, by unfold maxLen at hm ⊢; omega, fun x hxm => ?_⟩
    · obtain ⟨_, c, h1, h2, h3⟩ := hx j p hp
      exact ⟨c, h1, h2, h3⟩
    · obtain ⟨i, hi⟩ := List.mem_iff_getElem?.1 hxm
      exact (hx i x hi).1
theorem OpensF.one {α : Type} {f : Field} {off : Nat} {k : Kd α} {ok : α → Prop} (h : Opens P f.type k ok) (ho : f.offset = off) (hs : P.cellsOf f.type = k.sz) : OpensF P [f] off k ok := by
  intro H enc w base spare held fuel cs hl hf
  obtain ⟨y, hy⟩ := hf 0 f rfl
  rw [ho, hs, List.take_of_length_le (by simp; omega)] at hy
  exact h H enc w base spare held fuel _ y hy
theorem OpensF.cons {α β : Type} {f : Field} {fs : List Field} {off : Nat} {k : Kd α} {k2 : Kd β} {ok : α → Prop} {ok2 : β → Prop} (h : Opens P f.type k ok) (ho : f.offset = off) (hs : P.cellsOf f.type = k.sz)
    (h2 : OpensF P fs (off + k.sz) k2 ok2) : OpensF P (f :: fs) off (Kd.pair k k2) (fun x => ok x.1 ∧ ok2 x.2) := by
  intro H enc w base spare held fuel cs hl hf
  have hl' : cs.length = off + (k.sz + k2.sz) := hl
  obtain ⟨y, hy⟩ := hf 0 f rfl
  rw [ho, hs] at hy
  obtain ⟨x1, hx1, ho1⟩ := h H enc w base spare held fuel _ y hy
  obtain ⟨x2, hx2, ho2⟩ := h2 H enc w base spare held fuel cs (by omega) (fun i g hg => hf (i + 1) g (by simpa using hg))
  refine ⟨(x1, x2), ⟨(cs.drop off).take k.sz, cs.drop (off + k.sz), ?_, hx1, hx2⟩, ho1, ho2⟩
  rw [← List.drop_drop, List.take_append_drop]
theorem Opens.struct {α : Type} {fs : Array Field} {k : Kd α} {ok : α → Prop} (ht : P.underlying t = some (.struct fs)) (hC : P.cellsOf t = k.sz) (h : OpensF P fs.toList 0 k ok) : Opens P t k ok := by
  intro H enc w base spare held fuel cs y hh
  obtain ⟨ys, n, _, _, hlen, hyl, hf⟩ := DataW.trod_struct ht hh
  have := h H enc w base spare held n cs (by omega) (fun i f hfi => by
    have hfi' : fs[i]? = some f := by simpa using hfi
    have hi : i < ys.length := by rw [hyl]; exact (Array.getElem?_eq_some_iff.1 hfi').1
    exact ⟨_, (hf i f hfi').trans (List.getElem?_eq_getElem hi)⟩)
  simpa using this
/-- A parameter that is a row. -/
theorem Opens.arg {α H : Type} {enc : TypeId × Value → H} {w : World} {base : Nat} {spare : Nat → Bool} {held : Bool} {k : Kd α} {ok : α → Prop} (h : Opens P t (Kd.slice e k) (fun l => l.length ≤ maxLen ∧ ∀ x ∈ l, ok x)) {a : Option Addr} {len cap : Nat} {d : DataW H} {p : List MemPlace}
    (ht : DataW.Trod enc P w base spare held t (.slice a len cap) d p) : ∃ l : List α, len = l.length ∧ Kd.C k w a l.length l ∧ l.length ≤ cap ∧ l.length ≤ maxLen ∧ ∀ x ∈ l, ok x := by
  obtain ⟨fuel, hf⟩ := ht
  obtain ⟨l, ⟨A, c, e1, hc, hC⟩, hl, ho⟩ := h H enc w base spare held fuel _ _ hf
  have e1' : Value.slice a len cap = Value.slice A l.length c := by simpa [Value.cells] using e1
  injection e1' with x1 x2 x3
  subst x1 x2 x3
  exact ⟨l, rfl, hC, hc, hl, ho⟩
end
end Go.Proofs.YtcnbnljlopopkaaDoor.Opens
