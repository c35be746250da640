-- Written by hprint.py (this session's program, over the kit's printing program, with this session's own contracts in it). Not trusted: Lean checks it.
import Derived.Test.YtaobajfdnidkfaaDoorPFnPubx0
import Derived.Test.YtaobajfdnidkfaaDoorPFnPubx1
import Derived.Test.YtaobajfdnidkfaaDoorPFnPubx2
import Derived.Test.YtaobajfdnidkfaaDoorPFnPubx3
import Derived.Test.YtaobajfdnidkfaaDoorPFnPubx4
namespace Go.Proofs.YtaobajfdnidkfaaDoor.PFnPub
open Go.RowKit Go.Proofs.YtaobajfdnidkfaaDoorW.PrintWords Go.Proofs.YtaobajfdnidkfaaDoorW.PrintLast Go.Proofs.YtaobajfdnidkfaaDoorW.PrintMore
attribute [local go_sem] max2_int min2_int max_two min_two max_three min_three max_four min_four   -- for this text's walks alone
set_option linter.unusedVariables false
set_option linter.unusedSimpArgs false

/-! ### laws_FnPub: function 3 -/
-- LAID YtaobajfdnidkfaaDoor.PFnPub.MaxOk | ⟨_, C0, D0⟩
section
open _root_.Go.Proofs.YtaobajfdnidkfaaDoor.Road
theorem size_loop (s : ByteArray) (hs : s.size ≤ 9) (d : Nat) : ∀ (i : Nat) (n : Int), i ≤ (bl s).length → (bl s).length - i = d → Dig n i → bl s ≠ [] →
    Ev (fun k => spec_Size.l0 k s n (i : Int)) (sizeGo n ((bytesOf s).drop i)) := by
  have hl := bl_len s
  induction d with
  | zero =>
    intro i n h1 h2 hn h0
    refine Ev.step (f := fun _ => some n) (fun k => ?_) ?_
    · simp only [spec_Size.l0]
      rw [if_neg (by omega), if_neg (by rw [toList_bl]; exact h0)]
    · rw [List.drop_of_length_le (by rw [bytesOf_length]; omega), sizeGo]
      exact Ev.now _
  | succ d ih =>
    intro i n h1 h2 hn h0
    have hlt : i < (bl s).length := by omega
    rw [sizeGo_at n _ i (by rw [bytesOf_length]; omega), rd_bytesOf]
    by_cases c1 : bt s (i : Int) < 48
    · rw [if_pos (.inl c1)]
      refine Ev.step (f := fun _ => some (-1)) (fun k => ?_) (Ev.now _)
      simp only [spec_Size.l0]
      rw [if_pos (by omega), if_pos (by omega), if_pos c1]
    · by_cases c2 : 57 < bt s (i : Int)
      · rw [if_pos (.inr c2)]
        refine Ev.step (f := fun _ => some (-1)) (fun k => ?_) (Ev.now _)
        simp only [spec_Size.l0]
        rw [if_pos (by omega), if_pos (by omega), if_neg c1, if_pos c2]
      · rw [if_neg (by omega)]
        have hn2 := hn.next (by omega) c1 c2
        have hle := hn.le
        have hle2 := hn2.le
        refine Ev.step (f := fun k => spec_Size.l0 k s (n * 10 + (bt s (i : Int) - 48)) ((i + 1 : Nat) : Int)) (fun k => ?_) (ih (i + 1) _ (by omega) (by omega) hn2 h0)
        simp only [spec_Size.l0]
        rw [if_pos (by omega), if_pos (by omega), if_neg c1, if_neg (by omega), if_neg (by omega), wrap_nat i (by omega)]
        have e : wrap64 (wrap64 (10 * n) + (bt s (i : Int) - 48) % 256) = n * 10 + (bt s (i : Int) - 48) := by
          have e1 : wrap64 (10 * n) = 10 * n := by unfold wrap64; omega
          have e2 : (bt s (i : Int) - 48) % 256 = bt s (i : Int) - 48 := by omega
          rw [e1, e2]
          unfold wrap64
          omega
        rw [e]

theorem specSize_ev (s : ByteArray) : Ev (fun k => spec_Size.f k s) (if s.size = 0 ∨ 9 < s.size then -1 else sizeGo 0 (bytesOf s)) := by
  have hl := bl_len s
  unfold spec_Size.f
  by_cases h0 : s.size = 0
  · rw [if_pos (.inl h0)]
    refine Ev.step (f := fun _ => some (-1)) (fun k => ?_) (Ev.now _)
    simp only [spec_Size.l0]
    rw [if_neg (by omega), if_pos (by rw [toList_bl]; exact List.eq_nil_of_length_eq_zero (by omega))]
  · by_cases h9 : 9 < s.size
    · rw [if_pos (.inr h9)]
      refine Ev.step (f := fun _ => some (-1)) (fun k => ?_) (Ev.now _)
      simp only [spec_Size.l0]
      rw [if_pos (by omega), if_pos (by omega)]
      by_cases c1 : bt s 0 < 48
      · rw [if_pos c1]
      · rw [if_neg c1]
        by_cases c2 : bt s 0 > 57
        · rw [if_pos c2]
        · rw [if_neg c2, if_pos (by omega)]
    · rw [if_neg (by omega)]
      have := size_loop s (by omega) (bl s).length 0 0 (by omega) (by omega) ⟨by omega, by simp, by omega⟩ (by intro h; have := congrArg List.length h; rw [List.length_nil] at this; omega)
      simpa using this

/-! plain: the reference's words are the parts between blanks -/
def cutS (s : ByteArray) (p : Nat × Nat) : ByteArray := s.extract p.1 p.2
theorem bl_cut (s : ByteArray) (a b : Nat) : bl (s.extract a b) = ((bl s).take b).drop a := bl_extract s a b
theorem cut_snoc (s : ByteArray) (a i : Nat) (ha : a ≤ i) (hi : i < s.size) : s.extract a i ++ s.extract i (i + 1) = s.extract a (i + 1) := by
  have hl := bl_len s
  apply bl_inj
  have e : ∀ x y : ByteArray, bl (x ++ y) = bl x ++ bl y := fun x y => by simp [bl]
  rw [e, bl_cut, bl_cut, bl_cut, take_drop_snoc _ a i ha (by omega), take_drop_snoc _ i i (Nat.le_refl _) (by omega), List.drop_of_length_le (show ((bl s).take i).length ≤ i by rw [List.length_take]; omega)]
  rfl
theorem nil_app (s : ByteArray) : (⟨#[]⟩ : ByteArray) ++ s = s := by
  apply bl_inj
  simp [bl]
theorem seg_cut (s : ByteArray) (p : Nat × Nat) : seg (bytesOf s) p = bytesOf (cutS s p) := by
  have : bytesOf (cutS s p) = (((bl s).take p.2).drop p.1).map fun b => (b.toNat : Int) := by rw [← bl_cut]; rfl
  rw [this]
  unfold seg bytesOf bl
  rw [List.map_drop, List.map_take, ← List.drop_take]
theorem cut_size (s : ByteArray) (p : Nat × Nat) (h : p.2 ≤ s.size) : (cutS s p).size = p.2 - p.1 := by
  rw [← bl_len, cutS, bl_cut]
  have := bl_len s
  simp
  omega
theorem extract_ne (s : ByteArray) (a b : Nat) (h : a < b) (hb : b ≤ s.size) : ¬ (s.extract a b).toList = [] := by
  intro e
  rw [toList_bl] at e
  have := congrArg List.length e
  have h2 := cut_size s (a, b) hb
  rw [bl_len] at this
  unfold cutS at h2
  simp only [List.length_nil] at this h2
  omega
def wordNow (s : ByteArray) (st : Int) (i : Nat) : ByteArray := if st < 0 then ⟨#[]⟩ else s.extract st.toNat i
theorem empty_list : (⟨#[]⟩ : ByteArray).toList = [] := by rw [toList_bl]; rfl
theorem Words_loop (s : ByteArray) (hs : s.size ≤ 2147483647) (hn : ∀ i : Nat, i < s.size → ¬ bt s (i : Int) = 13 ∧ ¬ bt s (i : Int) = 10) (d : Nat) : ∀ (i : Nat) (out : List (Nat × Nat)) (st : Int), i + d = s.size → PubAt (bytesOf s) out st i →
    Ev (fun k => spec_Words.l0 k s (out.map (cutS s)) (wordNow s st i) (i : Int)) ((spans (bytesOf s) 0 (-1)).map (cutS s)) := by
  have hlen := bytesOf_length s
  induction d with
  | zero =>
    intro i out st hi h
    have hi' : i = s.size := by omega
    have hol := h.2.2.1
    refine Ev.step (f := fun k => spec_Words.j1 k s (out.map (cutS s)) (wordNow s st i) (i : Int) false) (fun k => ?_) ?_
    · simp only [spec_Words.l0]
      rw [if_pos (by omega), if_neg (by omega)]
    · by_cases hst : st < 0
      · refine Ev.step (f := fun k => spec_Words.l0 k s (out.map (cutS s)) (⟨#[]⟩ : ByteArray) ((i + 1 : Nat) : Int)) (fun k => ?_) ?_
        · simp only [spec_Words.j1, Bool.false_eq_true, if_false]
          rw [wordNow, if_pos hst, if_pos empty_list, wrap_nat i (by omega)]
        · refine Ev.step (f := fun _ => some (out.map (cutS s))) (fun k => ?_) ?_
          · simp only [spec_Words.l0]
            rw [if_neg (by omega)]
          · rw [← PubAt.done h hst (by omega)]
            exact Ev.now _
      · obtain ⟨a, rfl⟩ := Int.eq_ofNat_of_zero_le (show 0 ≤ st by omega)
        have hai : a < i := by have := h.2.1; omega
        refine Ev.step (f := fun k => spec_Words.l0 k s (out.map (cutS s) ++ [s.extract a i]) (⟨#[]⟩ : ByteArray) ((i + 1 : Nat) : Int)) (fun k => ?_) ?_
        · simp only [spec_Words.j1, Bool.false_eq_true, if_false]
          rw [wordNow, if_neg hst, Int.toNat_natCast, if_neg (extract_ne s a i hai (by omega)), if_pos (by rw [List.length_map]; omega), wrap_nat i (by omega)]
        · refine Ev.step (f := fun _ => some (out.map (cutS s) ++ [s.extract a i])) (fun k => ?_) ?_
          · simp only [spec_Words.l0]
            rw [if_neg (by omega)]
          · rw [← PubAt.last h (by omega), List.map_append, hlen, ← hi']
            exact Ev.now _
  | succ d ih =>
    intro i out st hi h
    have hil : i < (bytesOf s).length := by omega
    have hol := h.2.2.1
    obtain ⟨h13, h10⟩ := hn i (by omega)
    have hrd := rd_bytesOf s (i : Int)
    by_cases hb : bt s (i : Int) = 32 ∨ bt s (i : Int) = 9
    · have hbk : blk (rd (bytesOf s) (i : Int)) = true := by rw [hrd]; rcases hb with h | h <;> rw [h] <;> rfl
      refine Ev.step (f := fun k => spec_Words.j1 k s (out.map (cutS s)) (wordNow s st i) (i : Int) false) (fun k => ?_) ?_
      · simp only [spec_Words.l0]
        rw [if_pos (by omega), if_pos (by omega), if_pos (by omega)]
        by_cases h32 : bt s (i : Int) = 32
        · rw [if_pos h32]
        · rw [if_neg h32, if_pos (hb.resolve_left h32)]
      · by_cases hst : st < 0
        · refine Ev.step (f := fun k => spec_Words.l0 k s (out.map (cutS s)) (⟨#[]⟩ : ByteArray) ((i + 1 : Nat) : Int)) (fun k => ?_) ?_
          · simp only [spec_Words.j1, Bool.false_eq_true, if_false]
            rw [wordNow, if_pos hst, if_pos empty_list, wrap_nat i (by omega)]
          · have := ih (i + 1) out st (by omega) (PubAt.gap h hst hil hbk)
            rwa [wordNow, if_pos hst] at this
        · obtain ⟨a, rfl⟩ := Int.eq_ofNat_of_zero_le (show 0 ≤ st by omega)
          have hai : a < i := by have := h.2.1; omega
          refine Ev.step (f := fun k => spec_Words.l0 k s (out.map (cutS s) ++ [s.extract a i]) (⟨#[]⟩ : ByteArray) ((i + 1 : Nat) : Int)) (fun k => ?_) ?_
          · simp only [spec_Words.j1, Bool.false_eq_true, if_false]
            rw [wordNow, if_neg hst, Int.toNat_natCast, if_neg (extract_ne s a i hai (by omega)), if_pos (by rw [List.length_map]; omega), wrap_nat i (by omega)]
          · have := ih (i + 1) (out ++ [(a, i)]) (-1) (by omega) (PubAt.cut h hil hbk)
            rwa [wordNow, if_pos (by decide), List.map_append] at this
    · have hbk : blk (rd (bytesOf s) (i : Int)) = false := by rw [hrd]; simp [blk]; omega
      refine Ev.step (f := fun k => spec_Words.j1 k s (out.map (cutS s)) (wordNow s st i) (i : Int) true) (fun k => ?_) ?_
      · simp only [spec_Words.l0]
        rw [if_pos (by omega), if_pos (by omega), if_pos (by omega), if_neg (fun h => hb (.inl h)), if_neg (fun h => hb (.inr h)), if_neg h13, bne_iff_ne.2 h10]
      · have e1 : s.extract i (i + 1) = s.extract (i : Int).toNat ((i + 1 : Nat) : Int).toNat := by rw [Int.toNat_natCast, Int.toNat_natCast]
        have hsz : (s.extract i (i + 1)).size = 1 := by have := cut_size s (i, i + 1) (by omega); unfold cutS at this; simp only at this; omega
        by_cases hst : st < 0
        · refine Ev.step (f := fun k => spec_Words.l0 k s (out.map (cutS s)) (s.extract i (i + 1)) ((i + 1 : Nat) : Int)) (fun k => ?_) ?_
          · simp only [spec_Words.j1, if_true]
            rw [wordNow, if_pos hst, wrap_nat i (by omega), ← e1, if_pos (by omega), if_pos (by omega), if_pos (by omega), if_pos (by rw [hsz]; show 0 + 1 ≤ _; omega), nil_app]
          · have := ih (i + 1) out (i : Int) (by omega) (PubAt.begin h hst hil hbk)
            rwa [wordNow, if_neg (by omega), Int.toNat_natCast] at this
        · obtain ⟨a, rfl⟩ := Int.eq_ofNat_of_zero_le (show 0 ≤ st by omega)
          have hai : a < i := by have := h.2.1; omega
          have hs1 : (s.extract a i).size = i - a := by have := cut_size s (a, i) (by omega); unfold cutS at this; exact this
          refine Ev.step (f := fun k => spec_Words.l0 k s (out.map (cutS s)) (s.extract a (i + 1)) ((i + 1 : Nat) : Int)) (fun k => ?_) ?_
          · simp only [spec_Words.j1, if_true]
            rw [wordNow, if_neg hst, Int.toNat_natCast, wrap_nat i (by omega)]
            simp only [Int.toNat_natCast]
            rw [if_pos (by omega), if_pos (by omega), if_pos (by omega), if_pos (by rw [hsz, hs1]; omega), cut_snoc s a i (by omega) (by omega)]
          · have := ih (i + 1) out (a : Int) (by omega) (PubAt.on h hil hbk)
            rwa [wordNow, if_neg (by omega), Int.toNat_natCast] at this
theorem Words_ev (s : ByteArray) (hs : s.size ≤ 2147483647) (hn : ∀ i : Nat, i < s.size → ¬ bt s (i : Int) = 13 ∧ ¬ bt s (i : Int) = 10) : Ev (fun k => spec_Words.f k s) ((spans (bytesOf s) 0 (-1)).map (cutS s)) := by
  have := Words_loop s hs hn s.size 0 [] (-1) (by omega) (PubAt.start _)
  rw [wordNow, if_pos (by decide)] at this
  simpa [spec_Words.f] using this
/-- What the reference reads. -/
def rp (s : ByteArray) : List (Nat × Nat) → ByteArray × ByteArray × Int × Bool
  | [a, z] => (cutS s a, ⟨#[]⟩, psz (seg (bytesOf s) z), decide (psz (seg (bytesOf s) z) ≥ 0))
  | [a, r, z] => (cutS s a, cutS s r, psz (seg (bytesOf s) z), decide (psz (seg (bytesOf s) z) ≥ 0))
  | _ => (⟨#[]⟩, ⟨#[]⟩, 0, false)
theorem Size_cut (s : ByteArray) (z : Nat × Nat) : Ev (fun k => spec_Size.f k (cutS s z)) (psz (seg (bytesOf s) z)) := by
  have := specSize_ev (cutS s z)
  rw [seg_cut]
  unfold psz
  rwa [bytesOf_length]
theorem ReadPub_ev (s : ByteArray) (hs : s.size ≤ 2147483647) (hn : ∀ i : Nat, i < s.size → ¬ bt s (i : Int) = 13 ∧ ¬ bt s (i : Int) = 10) : Ev (fun k => spec_ReadPub.f k s) (rp s (spans (bytesOf s) 0 (-1))) := by
  unfold spec_ReadPub.f
  refine Ev.bind (Words_ev s hs hn) ?_
  generalize spans (bytesOf s) 0 (-1) = ws
  have none_ : Ev (fun k => spec_ReadPub.j0 k (ws.map (cutS s)) true) ((⟨#[]⟩ : ByteArray), (⟨#[]⟩ : ByteArray), (0 : Int), false) := by
    refine Ev.step (f := fun _ => some ((⟨#[]⟩ : ByteArray), (⟨#[]⟩ : ByteArray), (0 : Int), false)) (fun k => ?_) (Ev.now _)
    simp only [spec_ReadPub.j0, if_true]
  match ws, none_ with
  | [], h => simpa [rp] using h
  | [a], h => simpa [rp] using h
  | [a, z], _ =>
    simp only [List.map_cons, List.map_nil, List.length_cons, List.length_nil]
    refine Ev.step (f := fun k => (spec_Size.f k (cutS s z)).bind fun t112 => some (cutS s a, (⟨#[]⟩ : ByteArray), t112, decide (t112 ≥ 0))) (fun k => ?_) (Ev.bind (Size_cut s z) (Ev.now _))
    simp [spec_ReadPub.j0, show wrap64 (1 : Int) = 1 from w64 _ _ rfl (by decide) (by decide), rdOf]
  | [a, r, z], _ =>
    simp only [List.map_cons, List.map_nil, List.length_cons, List.length_nil]
    refine Ev.step (f := fun k => (spec_Size.f k (cutS s z)).bind fun t112 => some (cutS s a, cutS s r, t112, decide (t112 ≥ 0))) (fun k => ?_) (Ev.bind (Size_cut s z) (Ev.now _))
    simp [spec_ReadPub.j0, show wrap64 (2 : Int) = 2 from w64 _ _ rfl (by decide) (by decide), rdOf]
  | a :: b :: c :: e :: t, h =>
    show Ev _ ((⟨#[]⟩ : ByteArray), (⟨#[]⟩ : ByteArray), (0 : Int), false)
    have h4 : 4 ≤ ((a :: b :: c :: e :: t).map (cutS s)).length := by simp
    generalize (a :: b :: c :: e :: t).map (cutS s) = L at h h4 ⊢
    simp only [if_neg (show ¬ (L.length : Int) < 2 by omega), show decide ((L.length : Int) > 3) = true from decide_eq_true (by omega)]
    exact h
def MaxOk (w : World) : Prop := ∃ ea, MaxLaid w ea
theorem within_loop (l : List Int) (hl : l.length ≤ 2147483647) (d : Nat) : ∀ i : Nat, i + d = l.length →
    ∃ t, Ev (fun k => laws_within.l0 k l (i : Int)) t ∧ (t = true → l.length ≤ 200 ∧ ∀ j : Nat, i ≤ j → j < l.length → ¬ rd l (j : Int) = 13 ∧ ¬ rd l (j : Int) = 10) := by
  induction d with
  | zero =>
    intro i hi
    refine ⟨decide ((l.length : Int) ≤ 200), Ev.step (f := fun k => laws_within.j1 k l (i : Int) false) (fun k => ?_) (Ev.step (f := fun _ => some (decide ((l.length : Int) ≤ 200))) (fun k => ?_) (Ev.now _)), fun h => ⟨by have := of_decide_eq_true h; omega, fun j h1 h2 => by omega⟩⟩
    · simp only [laws_within.l0]
      rw [if_neg (by omega)]
    · simp [laws_within.j1]
  | succ d ih =>
    intro i hi
    by_cases h2 : (i : Int) ≤ 200
    · by_cases h13 : rd l (i : Int) = 13
      · refine ⟨false, Ev.step (f := fun k => laws_within.j1 k l (i : Int) true) (fun k => ?_) (Ev.step (f := fun _ => some false) (fun k => ?_) (Ev.now _)), fun h => by simp at h⟩
        · simp only [laws_within.l0]
          rw [if_pos (by omega), decide_eq_true h2]
        · simp only [laws_within.j1, if_true]
          rw [if_pos (by omega), if_pos (by omega), if_pos h13]
      · by_cases h10 : rd l (i : Int) = 10
        · refine ⟨false, Ev.step (f := fun k => laws_within.j1 k l (i : Int) true) (fun k => ?_) (Ev.step (f := fun _ => some false) (fun k => ?_) (Ev.now _)), fun h => by simp at h⟩
          · simp only [laws_within.l0]
            rw [if_pos (by omega), decide_eq_true h2]
          · simp only [laws_within.j1, if_true]
            rw [if_pos (by omega), if_pos (by omega), if_neg h13, if_pos h10]
        · obtain ⟨t, ht, hh⟩ := ih (i + 1) (by omega)
          refine ⟨t, Ev.step (f := fun k => laws_within.j1 k l (i : Int) true) (fun k => ?_) (Ev.step (f := fun k => laws_within.l0 k l ((i + 1 : Nat) : Int)) (fun k => ?_) ht), fun h => ⟨(hh h).1, fun j h1 h3 => ?_⟩⟩
          · simp only [laws_within.l0]
            rw [if_pos (by omega), decide_eq_true h2]
          · simp only [laws_within.j1, if_true]
            rw [if_pos (by omega), if_pos (by omega), if_neg h13, if_neg h10, wrap_nat i (by omega)]
          · rcases Nat.eq_or_lt_of_le h1 with h | h4
            · rw [← h]; exact ⟨h13, h10⟩
            · exact (hh h).2 j h4 h3
    · refine ⟨false, Ev.step (f := fun k => laws_within.j1 k l (i : Int) false) (fun k => ?_) (Ev.step (f := fun _ => some false) (fun k => ?_) (Ev.now _)), fun h => by simp at h⟩
      · simp only [laws_within.l0]
        rw [if_pos (by omega), decide_eq_false h2]
      · simp only [laws_within.j1, Bool.false_eq_true, if_false]
        rw [decide_eq_false (by omega)]
theorem within_ev (l : List Int) (hl : l.length ≤ 2147483647) : ∃ t, Ev (fun k => laws_within.f k l) t ∧ (t = true → l.length ≤ 200 ∧ ∀ j : Nat, j < l.length → ¬ rd l (j : Int) = 13 ∧ ¬ rd l (j : Int) = 10) := by
  obtain ⟨t, h1, h2⟩ := within_loop l hl l.length 0 (by omega)
  exact ⟨t, h1, fun h => ⟨(h2 h).1, fun j hj => (h2 h).2 j (by omega) hj⟩⟩
section
variable (A0 : Option Addr) (c0 : Nat) (l : List Int) (lim : Int) (w : World) (hC : Kd.C (Kd.int .u8) w A0 l.length l) (hcp : l.length ≤ c0) (hl : l.length ≤ 2147483647) (h1 : -1 ≤ lim) (h2 : lim ≤ 2147483647) (ea : Addr) (hE : MaxLaid w ea)
include hC hcp hl h1 h2 hE
theorem impl_Pub_ok {p : Nat × Nat} {r : Option (Nat × Nat)} {n : Int} (hR : pubW (spans l 0 (-1)) l lim = .ok p r n) :
    Calls Tryd.prog 7 #[.slice A0 l.length c0, .int .i64 lim] w fun e w' => ∃ A1 c1 A2 c2, e = .returned (.tuple #[.slice A1 (seg l p).length c1, .slice A2 (segO l r).length c2, .int .i64 n, .int .i64 0]) ∧ Below w.heap.size w w' ∧ Kd.C (Kd.int .u8) w' A1 (seg l p).length (seg l p) ∧ Kd.C (Kd.int .u8) w' A2 (segO l r).length (segO l r) := by
  refine (impl_Pub.walk A0 c0 l lim w hC hcp hl h1 h2 ea hE).mono ?_
  rw [hR]
  rintro e w' ⟨hb, A5, c5, A6, c6, rfl, q1, q2, q3, q4⟩
  exact ⟨A5, c5, A6, c6, rfl, hb, q1, q3⟩
theorem impl_Pub_bad (hR : pubW (spans l 0 (-1)) l lim = .bad) :
    Calls Tryd.prog 7 #[.slice A0 l.length c0, .int .i64 lim] w fun e w' => e = .returned (.tuple #[.slice none 0 0, .slice none 0 0, .int .i64 0, .int .i64 1]) ∧ Below w.heap.size w w' := by
  refine (impl_Pub.walk A0 c0 l lim w hC hcp hl h1 h2 ea hE).mono ?_
  rw [hR]
  rintro e w' ⟨hb, rfl⟩
  exact ⟨rfl, hb⟩
theorem impl_Pub_big (hR : pubW (spans l 0 (-1)) l lim = .big) :
    Calls Tryd.prog 7 #[.slice A0 l.length c0, .int .i64 lim] w fun e w' => e = .returned (.tuple #[.slice none 0 0, .slice none 0 0, .int .i64 0, .int .i64 2]) ∧ Below w.heap.size w w' := by
  refine (impl_Pub.walk A0 c0 l lim w hC hcp hl h1 h2 ea hE).mono ?_
  rw [hR]
  rintro e w' ⟨hb, rfl⟩
  exact ⟨rfl, hb⟩
end
theorem lit_res : pubW (spans [97, 32, 49, 50] 0 (-1)) [97, 32, 49, 50] (-1) = .ok (0, 1) none 12 := by rfl
theorem lit_row (w : World) (n m : Nat) : Kd.C (Kd.int .u8) ((w.alloc (.cells #[.int .u8 97, .int .u8 32, .int .u8 49, .int .u8 50] 5 (n, m)))) (some ⟨w.heap.size, 0, none⟩) [97, 32, 49, 50].length ([97, 32, 49, 50] : List Int) := by
  refine Kd.C_of_reads (enc := Value.int .u8) (d := (0 : Int)) (h1 := fun _ => rfl) ⟨rfl, by decide, fun _ => ⟨_, rfl, fun j hj => ?_⟩⟩
  have hh : (w.alloc (.cells #[.int .u8 97, .int .u8 32, .int .u8 49, .int .u8 50] 5 (n, m))).heap[w.heap.size]? = some (.cells #[.int .u8 97, .int .u8 32, .int .u8 49, .int .u8 50] 5 (n, m)) := heap_alloc_new w _
  rw [add_plain, cell_of_heap hh]
  match j, hj with
  | 0, _ => rfl
  | 1, _ => rfl
  | 2, _ => rfl
  | 3, _ => rfl
  | j + 4, hj => exact absurd hj (by simp)
theorem lit_pub (w : World) (n m : Nat) (ea : Addr) (hE : MaxLaid (w.alloc (.cells #[.int .u8 97, .int .u8 32, .int .u8 49, .int .u8 50] 5 (n, m))) ea) :
    Calls Tryd.prog 7 #[.slice (some ⟨w.heap.size, 0, none⟩) 4 4, .int .i64 (-1)] (w.alloc (.cells #[.int .u8 97, .int .u8 32, .int .u8 49, .int .u8 50] 5 (n, m))) fun e w' =>
      Below (w.alloc (.cells #[.int .u8 97, .int .u8 32, .int .u8 49, .int .u8 50] 5 (n, m))).heap.size (w.alloc (.cells #[.int .u8 97, .int .u8 32, .int .u8 49, .int .u8 50] 5 (n, m))) w' ∧ ∃ v v', e = .returned (.tuple #[v, v', .int .i64 12, .int .i64 0]) := by
  refine (impl_Pub.walk (some ⟨w.heap.size, 0, none⟩) 4 [97, 32, 49, 50] (-1) _ (lit_row w n m) (by decide) (by decide) (by decide) (by decide) ea hE).mono ?_
  rw [lit_res]
  rintro e w' ⟨hb, A5, c5, A6, c6, rfl, _⟩
  exact ⟨hb, _, _, rfl⟩
set_option maxHeartbeats 8000000 in
set_option maxRecDepth 100000 in
theorem FnPub_ok (A : Option Addr) (c : Nat) (s : ByteArray) (l : List Int) (hs : l = bytesOf s) (lim : Int) (w : World) (hC : Kd.C (Kd.int .u8) w A l.length l) (hcp : l.length ≤ c) (hl : l.length ≤ 200) (h1 : -1 ≤ lim) (h2 : lim ≤ 2147483647) (ea : Addr) (hE : MaxLaid w ea)
    (kw : Nat) (hkw : laws_within.f kw l = some true) (kr : Nat) (p : Nat × Nat) (r : Option (Nat × Nat)) (n : Int) (hR : pubW (spans l 0 (-1)) l lim = .ok p r n) (hkr : spec_ReadPub.f kr s = some (strOfNums (seg l p), strOfNums (segO l r), n, true)) (hlim : ¬ (0 ≤ lim ∧ lim < n)) :
    Calls Tryd.prog 3 #[.slice A l.length c, .int .i64 lim] w fun e w' => e = .returned (.bool true) ∧ Below w.heap.size w w' := by
  have HB := Aside0.mk (Below.refl w.heap.size w)
  have d1 : decide (2147483647 < (l.length : Int)) = false := decide_eq_false (by omega)
  have d2 : decide (2147483647 < l.length) = false := decide_eq_false (by omega)
  have d3 : decide (lim < -1) = false := decide_eq_false (by omega)
  have d4 : decide (2147483647 < lim) = false := decide_eq_false (by omega)
  have HC := Aside0.mk hC
  have HP := Aside0.mk hcp
  have HL := Aside0.mk hl
  have H1 := Aside0.mk h1
  have H2 := Aside0.mk h2
  have HE := Aside0.mk hE
  have HKW := Aside0.mk hkw
  have HKR := Aside0.mk hkr
  have HR := Aside0.mk hR
  have HS := Aside0.mk hs
  have HLIM := Aside0.mk hlim
  obtain ⟨r1, hr1⟩ : ∃ r1, r1 = strOfNums (seg l p) := ⟨_, rfl⟩
  obtain ⟨r2, hr2⟩ : ∃ r2, r2 = strOfNums (segO l r) := ⟨_, rfl⟩
  have HR1 := Aside0.mk hr1
  have HR2 := Aside0.mk hr2
  rw [← hr1, ← hr2] at hkr
  have HKR := Aside0.mk hkr
  have kc := fun (w : World) (C : Array Value) (n c : Nat) => Lib.run_convert_bytes_const (P := Tryd.prog) w 22 5 C n c Tryd.underlying22 Tryd.underlying5
  have hl2 : (decide (0 ≤ lim) = true ∧ decide (lim < n) = false) ∨ (decide (0 ≤ lim) = false ∧ True) := by
    by_cases h : 0 ≤ lim
    · exact .inl ⟨decide_eq_true h, decide_eq_false (fun h' => hlim ⟨h, h'⟩)⟩
    · exact .inr ⟨decide_eq_false h, trivial⟩
  clear hC hcp hl h1 h2 hE hkw hkr hR hs hlim hr1 hr2
  rcases hl2 with ⟨d5, d6⟩ | ⟨d5, d6⟩
  all_goals
    go_enter Tryd.func3, Tryd.ntmps3
    go_wp2_with (first | ((with_reducible refine gate_callee (f := 5) rfl ?_); refine goesL_ (some 19) rfl rfl Tryd.func5 (by kernel_rfl) rfl #[.slice A l.length c] rfl (by (try simp only [List.map_toArray, List.map_cons, List.map_nil]); first | done | rfl | (simp only [List.length_drop, List.length_take]; rfl)) ?_; (with_reducible refine (laws_within.calls kw A c l true _ HC.out HP.out HKW.out).mono ?_); rintro e w1 ⟨rfl, hb⟩; refine ⟨_, rfl, ?_⟩; have n0_ := Aside0.mk (below_step (by repeat (first | (with_reducible first | exact HB.out | apply below_alloc | apply pw_below_drewN | apply below_drew1) | exact HB.out)) hb.below); clear HB; have HB := n0_; clear n0_ hb; have hcs := Kd.C_string Tryd.underlying22 Tryd.underlying5 Tryd.underlying9 (c := c) (Kd.C_below HC.out HB.out); rw [show strOfNums l = s by rw [HS.out, strOfNums_bytesOf]] at hcs) | ((with_reducible refine gate_callee (f := 6) rfl ?_); refine goesL_ (some 32) rfl rfl Tryd.func6 (by kernel_rfl) rfl #[.string s] rfl (by (try simp only [List.map_toArray, List.map_cons, List.map_nil]); first | done | rfl | (simp only [List.length_drop, List.length_take]; rfl)) ?_; (with_reducible refine (spec_ReadPub.calls kr s r1 r2 n true _ HKR.out).mono ?_); rintro e w2 ⟨rfl, hb⟩; refine ⟨_, rfl, ?_⟩; have n0_ := Aside0.mk (below_step (by repeat (first | (with_reducible first | exact HB.out | apply below_alloc | apply pw_below_drewN | apply below_drew1) | exact HB.out)) hb); clear HB hcs; have HB := n0_; clear n0_ hb; have HNEW := Aside0.mk (heap_alloc_new w2 (.cells #[.string r1, .string r2, .int .i64 n] 25))) | ((with_reducible refine gate_dst (N := 36) rfl ?_); refine Kd.R_lit (Kd.int .u8) _ 5 ?hg (N := 36) ?hd (xs := []) (inner := []) (ok := fun _ => True) (okp := fun _ => True) ?hr ?hp (fun _ hk => hk) trivial (Below.refl _ _) (Nat.le_refl _) (by simp) ?_; (case hd => rfl); (case hg => rfl); (case hr => first | (go_simp; done) | (go_simp; rfl)); (case hp => exact (Reps.none _ _)); intro v1 w_ ho_ hb hg_ hnew_; have nk_ := Aside0.mk ((hg_.block _ (lt_size HNEW.out) (by simp)).trans HNEW.out); have HNB := Aside0.mk (show some (w2.heap.size) ≠ Value.ownBlock v1 by obtain ⟨b_, e1_, e2_⟩ := hnew_; rw [e1_]; intro e_; injection e_ with e_; have := lt_size HNEW.out; omega); clear HNEW; have HNEW := nk_; clear nk_; clear hg_ hnew_; have n0_ := Aside0.mk (Kd.R_lower ho_ (below_size (by repeat (first | (with_reducible first | exact HB.out | apply below_alloc | apply pw_below_drewN | apply below_drew1) | exact HB.out)))); have n1_ := Aside0.mk (below_step (by repeat (first | (with_reducible first | exact HB.out | apply below_alloc | apply pw_below_drewN | apply below_drew1) | exact HB.out)) hb); clear HB; have HO1 := n0_; have HB := n1_; clear n0_ n1_; clear hb ho_) | ((with_reducible refine gate_builtin (b := .append) (xs := #[.tmp 36, .tmp 37]) rfl ?_); at_builtin; refine Kd.R_append_rows (Kd.int .u8) (w0 := w) w.heap.size rfl (.tmp 36) (.tmp 37) 22 5 (.int .u8 0) 1 rfl Tryd.underlying22 info5 rfl (by decide) (by omega) v1 [] l _ _ _ (fun _ => True) (fun _ => False) rfl rfl ?aO ?aR (fun _ _ h => h) (fun _ h => h.elim) ?aF ?aB ?aS ?aL ?_; (case aR => repeat (first | exact (Kd.C_below HC.out HB.out) | (with_reducible refine Kd.C_alloc ?_ _) | (with_reducible refine Kd.C_drewN ?_ _) | (with_reducible refine Kd.C_drew ?_))); (case aB => exact (by repeat (first | (with_reducible first | exact HB.out | apply below_alloc | apply pw_below_drewN | apply below_drew1) | exact HB.out))); (case aF => exact (fun _ _ => trivial)); (case aO => exact (by (with_reducible repeat (first | apply Kd.R_alloc | apply Kd.R_drewN | apply Kd.R_drew)); exact HO1.out)); (case aS => exact (below_size (by repeat (first | (with_reducible first | exact HB.out | apply below_alloc | apply pw_below_drewN | apply below_drew1) | exact HB.out)))); (case aL => have := HL.out; simp; omega); intro v2 w_ ho_ hb hg_ hat_; rw [List.nil_append] at ho_; have nk_ := Aside0.mk ((hg_.block _ (lt_size HNEW.out) HNB.out).trans HNEW.out); clear HNEW HNB; have HNEW := nk_; clear nk_; have n0_ := Aside0.mk hb; have n1_ := Aside0.mk ho_; clear HB; clear HO1; have HB := n0_; have HO2 := n1_; clear n0_ n1_; clear ho_ hb hg_ hat_; obtain ⟨A2, c2, e2⟩ := Kd.R_slice HO2.out; subst e2) | ((with_reducible refine gate_callee (f := 7) rfl ?_); refine goesL_ (some 40) rfl rfl Tryd.func7 (by kernel_rfl) rfl #[.slice A2 l.length c2, .int .i64 lim] rfl (by (try simp only [List.map_toArray, List.map_cons, List.map_nil]); first | done | rfl | (simp only [List.length_drop, List.length_take]; rfl)) ?_; (with_reducible refine (impl_Pub_ok A2 c2 l lim _ (Kd.R_reads' (by (with_reducible repeat (first | apply Kd.R_alloc | apply Kd.R_drewN | apply Kd.R_drew)); exact HO2.out)).2.2 (Kd.R_reads' HO2.out).2.1 (by have := HL.out; omega) H1.out H2.out ea (HE.out.below (by repeat (first | (with_reducible first | exact HB.out | apply below_alloc | apply pw_below_drewN | apply below_drew1) | exact HB.out))) HR.out).mono ?_); rintro e w4 ⟨A5, c5, A6, c6, rfl, hb, q1, q3⟩; refine ⟨_, rfl, ?_⟩; have HQ1 := Aside0.mk q1; have HQ3 := Aside0.mk q3; have n0_ := Aside0.mk (below_step (by repeat (first | (with_reducible first | exact HB.out | apply below_alloc | apply pw_below_drewN | apply below_drew1) | exact HB.out)) hb); have nk_ := Aside0.mk ((hb.block _ (lt_size HNEW.out)).trans HNEW.out); clear HNEW HB HO2; have HNEW := nk_; have HB := n0_; clear n0_ nk_ hb q1 q3) | ((with_reducible refine gate_callee (f := 7) rfl ?_); refine goesL_ (some 48) rfl rfl Tryd.func7 (by kernel_rfl) rfl #[.slice (some ⟨_, 0, none⟩) 4 4, .int .i64 (-1)] rfl (by (try simp only [List.map_toArray, List.map_cons, List.map_nil]); first | done | rfl | (simp only [List.length_drop, List.length_take]; rfl)) ?_; (with_reducible refine (lit_pub _ _ _ ea (HE.out.below (by repeat (first | (with_reducible first | exact HB.out | apply below_alloc | apply pw_below_drewN | apply below_drew1) | exact HB.out)))).mono ?_); rintro e w5 ⟨hb, v7, v8, rfl⟩; refine ⟨_, rfl, ?_⟩; have nk_ := Aside0.mk ((hb.block _ (lt_size (alloc_same_heap _ HNEW.out))).trans (alloc_same_heap _ HNEW.out)); have hw_ := below_step (below_alloc (Below.refl _ _) _) hb; have hs1 := Kd.C_string Tryd.underlying22 Tryd.underlying5 Tryd.underlying9 (c := c5) (Kd.C_below HQ1.out hw_); have hs2 := Kd.C_string Tryd.underlying22 Tryd.underlying5 Tryd.underlying9 (c := c6) (Kd.C_below HQ3.out hw_); rw [← HR1.out] at hs1; rw [← HR2.out] at hs2; have n0_ := Aside0.mk (below_step (by repeat (first | (with_reducible first | exact HB.out | apply below_alloc | apply pw_below_drewN | apply below_drew1) | exact HB.out)) hb); have f0 : World.cell? _ ⟨w2.heap.size, 0, none⟩ = some (.string r1) := (cell_of_heap nk_.out).trans rfl; have f1 : World.cell? _ ⟨w2.heap.size, 1, none⟩ = some (.string r2) := (cell_of_heap nk_.out).trans rfl; have f2 : World.cell? _ ⟨w2.heap.size, 2, none⟩ = some (.int .i64 n) := (cell_of_heap nk_.out).trans rfl; clear HNEW HB; have HB := n0_; clear n0_ nk_ hb hw_))
    go_ret
    exact ⟨rfl, by repeat (first | (with_reducible first | exact HB.out | apply below_alloc | apply pw_below_drewN | apply below_drew1) | exact HB.out)⟩
set_option maxHeartbeats 8000000 in
set_option maxRecDepth 100000 in
theorem FnPub_bad (A : Option Addr) (c : Nat) (s : ByteArray) (l : List Int) (hs : l = bytesOf s) (lim : Int) (w : World) (hC : Kd.C (Kd.int .u8) w A l.length l) (hcp : l.length ≤ c) (hl : l.length ≤ 200) (h1 : -1 ≤ lim) (h2 : lim ≤ 2147483647) (ea : Addr) (hE : MaxLaid w ea)
    (kw : Nat) (hkw : laws_within.f kw l = some true) (kr : Nat) (r1 r2 : ByteArray) (n : Int) (hR : pubW (spans l 0 (-1)) l lim = .bad) (hkr : spec_ReadPub.f kr s = some (r1, r2, n, false)) :
    Calls Tryd.prog 3 #[.slice A l.length c, .int .i64 lim] w fun e w' => e = .returned (.bool true) ∧ Below w.heap.size w w' := by
  have HB := Aside0.mk (Below.refl w.heap.size w)
  have d1 : decide (2147483647 < (l.length : Int)) = false := decide_eq_false (by omega)
  have d2 : decide (2147483647 < l.length) = false := decide_eq_false (by omega)
  have d3 : decide (lim < -1) = false := decide_eq_false (by omega)
  have d4 : decide (2147483647 < lim) = false := decide_eq_false (by omega)
  have HC := Aside0.mk hC
  have HP := Aside0.mk hcp
  have HL := Aside0.mk hl
  have H1 := Aside0.mk h1
  have H2 := Aside0.mk h2
  have HE := Aside0.mk hE
  have HKW := Aside0.mk hkw
  have HKR := Aside0.mk hkr
  have HR := Aside0.mk hR
  have HS := Aside0.mk hs
  have kc := fun (w : World) (C : Array Value) (n c : Nat) => Lib.run_convert_bytes_const (P := Tryd.prog) w 22 5 C n c Tryd.underlying22 Tryd.underlying5
  clear hC hcp hl h1 h2 hE hkw hkr hR hs
  all_goals
    go_enter Tryd.func3, Tryd.ntmps3
    go_wp2_with (first | ((with_reducible refine gate_callee (f := 5) rfl ?_); refine goesL_ (some 19) rfl rfl Tryd.func5 (by kernel_rfl) rfl #[.slice A l.length c] rfl (by (try simp only [List.map_toArray, List.map_cons, List.map_nil]); first | done | rfl | (simp only [List.length_drop, List.length_take]; rfl)) ?_; (with_reducible refine (laws_within.calls kw A c l true _ HC.out HP.out HKW.out).mono ?_); rintro e w1 ⟨rfl, hb⟩; refine ⟨_, rfl, ?_⟩; have n0_ := Aside0.mk (below_step (by repeat (first | (with_reducible first | exact HB.out | apply below_alloc | apply pw_below_drewN | apply below_drew1) | exact HB.out)) hb.below); clear HB; have HB := n0_; clear n0_ hb; have hcs := Kd.C_string Tryd.underlying22 Tryd.underlying5 Tryd.underlying9 (c := c) (Kd.C_below HC.out HB.out); rw [show strOfNums l = s by rw [HS.out, strOfNums_bytesOf]] at hcs) | ((with_reducible refine gate_callee (f := 6) rfl ?_); refine goesL_ (some 32) rfl rfl Tryd.func6 (by kernel_rfl) rfl #[.string s] rfl (by (try simp only [List.map_toArray, List.map_cons, List.map_nil]); first | done | rfl | (simp only [List.length_drop, List.length_take]; rfl)) ?_; (with_reducible refine (spec_ReadPub.calls kr s r1 r2 n false _ HKR.out).mono ?_); rintro e w2 ⟨rfl, hb⟩; refine ⟨_, rfl, ?_⟩; have n0_ := Aside0.mk (below_step (by repeat (first | (with_reducible first | exact HB.out | apply below_alloc | apply pw_below_drewN | apply below_drew1) | exact HB.out)) hb); clear HB hcs; have HB := n0_; clear n0_ hb; have HNEW := Aside0.mk (heap_alloc_new w2 (.cells #[.string r1, .string r2, .int .i64 n] 25))) | ((with_reducible refine gate_dst (N := 36) rfl ?_); refine Kd.R_lit (Kd.int .u8) _ 5 ?hg (N := 36) ?hd (xs := []) (inner := []) (ok := fun _ => True) (okp := fun _ => True) ?hr ?hp (fun _ hk => hk) trivial (Below.refl _ _) (Nat.le_refl _) (by simp) ?_; (case hd => rfl); (case hg => rfl); (case hr => first | (go_simp; done) | (go_simp; rfl)); (case hp => exact (Reps.none _ _)); intro v1 w_ ho_ hb hg_ hnew_; have nk_ := Aside0.mk ((hg_.block _ (lt_size HNEW.out) (by simp)).trans HNEW.out); have HNB := Aside0.mk (show some (w2.heap.size) ≠ Value.ownBlock v1 by obtain ⟨b_, e1_, e2_⟩ := hnew_; rw [e1_]; intro e_; injection e_ with e_; have := lt_size HNEW.out; omega); clear HNEW; have HNEW := nk_; clear nk_; clear hg_ hnew_; have n0_ := Aside0.mk (Kd.R_lower ho_ (below_size (by repeat (first | (with_reducible first | exact HB.out | apply below_alloc | apply pw_below_drewN | apply below_drew1) | exact HB.out)))); have n1_ := Aside0.mk (below_step (by repeat (first | (with_reducible first | exact HB.out | apply below_alloc | apply pw_below_drewN | apply below_drew1) | exact HB.out)) hb); clear HB; have HO1 := n0_; have HB := n1_; clear n0_ n1_; clear hb ho_) | ((with_reducible refine gate_builtin (b := .append) (xs := #[.tmp 36, .tmp 37]) rfl ?_); at_builtin; refine Kd.R_append_rows (Kd.int .u8) (w0 := w) w.heap.size rfl (.tmp 36) (.tmp 37) 22 5 (.int .u8 0) 1 rfl Tryd.underlying22 info5 rfl (by decide) (by omega) v1 [] l _ _ _ (fun _ => True) (fun _ => False) rfl rfl ?aO ?aR (fun _ _ h => h) (fun _ h => h.elim) ?aF ?aB ?aS ?aL ?_; (case aR => repeat (first | exact (Kd.C_below HC.out HB.out) | (with_reducible refine Kd.C_alloc ?_ _) | (with_reducible refine Kd.C_drewN ?_ _) | (with_reducible refine Kd.C_drew ?_))); (case aB => exact (by repeat (first | (with_reducible first | exact HB.out | apply below_alloc | apply pw_below_drewN | apply below_drew1) | exact HB.out))); (case aF => exact (fun _ _ => trivial)); (case aO => exact (by (with_reducible repeat (first | apply Kd.R_alloc | apply Kd.R_drewN | apply Kd.R_drew)); exact HO1.out)); (case aS => exact (below_size (by repeat (first | (with_reducible first | exact HB.out | apply below_alloc | apply pw_below_drewN | apply below_drew1) | exact HB.out)))); (case aL => have := HL.out; simp; omega); intro v2 w_ ho_ hb hg_ hat_; rw [List.nil_append] at ho_; have nk_ := Aside0.mk ((hg_.block _ (lt_size HNEW.out) HNB.out).trans HNEW.out); clear HNEW HNB; have HNEW := nk_; clear nk_; have n0_ := Aside0.mk hb; have n1_ := Aside0.mk ho_; clear HB; clear HO1; have HB := n0_; have HO2 := n1_; clear n0_ n1_; clear ho_ hb hg_ hat_; obtain ⟨A2, c2, e2⟩ := Kd.R_slice HO2.out; subst e2) | ((with_reducible refine gate_callee (f := 7) rfl ?_); refine goesL_ (some 40) rfl rfl Tryd.func7 (by kernel_rfl) rfl #[.slice A2 l.length c2, .int .i64 lim] rfl (by (try simp only [List.map_toArray, List.map_cons, List.map_nil]); first | done | rfl | (simp only [List.length_drop, List.length_take]; rfl)) ?_; (with_reducible refine (impl_Pub_bad A2 c2 l lim _ (Kd.R_reads' (by (with_reducible repeat (first | apply Kd.R_alloc | apply Kd.R_drewN | apply Kd.R_drew)); exact HO2.out)).2.2 (Kd.R_reads' HO2.out).2.1 (by have := HL.out; omega) H1.out H2.out ea (HE.out.below (by repeat (first | (with_reducible first | exact HB.out | apply below_alloc | apply pw_below_drewN | apply below_drew1) | exact HB.out))) HR.out).mono ?_); rintro e w4 ⟨rfl, hb⟩; refine ⟨_, rfl, ?_⟩; have n0_ := Aside0.mk (below_step (by repeat (first | (with_reducible first | exact HB.out | apply below_alloc | apply pw_below_drewN | apply below_drew1) | exact HB.out)) hb); have nk_ := Aside0.mk ((hb.block _ (lt_size HNEW.out)).trans HNEW.out); clear HNEW HB HO2; have HNEW := nk_; have HB := n0_; clear n0_ nk_ hb) | ((with_reducible refine gate_callee (f := 7) rfl ?_); refine goesL_ (some 48) rfl rfl Tryd.func7 (by kernel_rfl) rfl #[.slice (some ⟨_, 0, none⟩) 4 4, .int .i64 (-1)] rfl (by (try simp only [List.map_toArray, List.map_cons, List.map_nil]); first | done | rfl | (simp only [List.length_drop, List.length_take]; rfl)) ?_; (with_reducible refine (lit_pub _ _ _ ea (HE.out.below (by repeat (first | (with_reducible first | exact HB.out | apply below_alloc | apply pw_below_drewN | apply below_drew1) | exact HB.out)))).mono ?_); rintro e w5 ⟨hb, v7, v8, rfl⟩; refine ⟨_, rfl, ?_⟩; have nk_ := Aside0.mk ((hb.block _ (lt_size (alloc_same_heap _ HNEW.out))).trans (alloc_same_heap _ HNEW.out)); have hw_ := below_step (below_alloc (Below.refl _ _) _) hb; have n0_ := Aside0.mk (below_step (by repeat (first | (with_reducible first | exact HB.out | apply below_alloc | apply pw_below_drewN | apply below_drew1) | exact HB.out)) hb); clear HNEW HB; have HB := n0_; clear n0_ nk_ hb hw_))
    go_ret
    exact ⟨rfl, by repeat (first | (with_reducible first | exact HB.out | apply below_alloc | apply pw_below_drewN | apply below_drew1) | exact HB.out)⟩
set_option maxHeartbeats 8000000 in
set_option maxRecDepth 100000 in
theorem FnPub_big (A : Option Addr) (c : Nat) (s : ByteArray) (l : List Int) (hs : l = bytesOf s) (lim : Int) (w : World) (hC : Kd.C (Kd.int .u8) w A l.length l) (hcp : l.length ≤ c) (hl : l.length ≤ 200) (h1 : -1 ≤ lim) (h2 : lim ≤ 2147483647) (ea : Addr) (hE : MaxLaid w ea)
    (kw : Nat) (hkw : laws_within.f kw l = some true) (kr : Nat) (r1 r2 : ByteArray) (n : Int) (hR : pubW (spans l 0 (-1)) l lim = .big) (hkr : spec_ReadPub.f kr s = some (r1, r2, n, true)) (h0 : 0 ≤ lim) (hn : lim < n) :
    Calls Tryd.prog 3 #[.slice A l.length c, .int .i64 lim] w fun e w' => e = .returned (.bool true) ∧ Below w.heap.size w w' := by
  have HB := Aside0.mk (Below.refl w.heap.size w)
  have d1 : decide (2147483647 < (l.length : Int)) = false := decide_eq_false (by omega)
  have d2 : decide (2147483647 < l.length) = false := decide_eq_false (by omega)
  have d3 : decide (lim < -1) = false := decide_eq_false (by omega)
  have d4 : decide (2147483647 < lim) = false := decide_eq_false (by omega)
  have HC := Aside0.mk hC
  have HP := Aside0.mk hcp
  have HL := Aside0.mk hl
  have H1 := Aside0.mk h1
  have H2 := Aside0.mk h2
  have HE := Aside0.mk hE
  have HKW := Aside0.mk hkw
  have HKR := Aside0.mk hkr
  have HR := Aside0.mk hR
  have HS := Aside0.mk hs
  have d5 : decide (0 ≤ lim) = true := decide_eq_true h0
  have d6 : decide (lim < n) = true := decide_eq_true hn
  have kc := fun (w : World) (C : Array Value) (n c : Nat) => Lib.run_convert_bytes_const (P := Tryd.prog) w 22 5 C n c Tryd.underlying22 Tryd.underlying5
  clear hC hcp hl h1 h2 hE hkw hkr hR hs h0 hn
  all_goals
    go_enter Tryd.func3, Tryd.ntmps3
    go_wp2_with (first | ((with_reducible refine gate_callee (f := 5) rfl ?_); refine goesL_ (some 19) rfl rfl Tryd.func5 (by kernel_rfl) rfl #[.slice A l.length c] rfl (by (try simp only [List.map_toArray, List.map_cons, List.map_nil]); first | done | rfl | (simp only [List.length_drop, List.length_take]; rfl)) ?_; (with_reducible refine (laws_within.calls kw A c l true _ HC.out HP.out HKW.out).mono ?_); rintro e w1 ⟨rfl, hb⟩; refine ⟨_, rfl, ?_⟩; have n0_ := Aside0.mk (below_step (by repeat (first | (with_reducible first | exact HB.out | apply below_alloc | apply pw_below_drewN | apply below_drew1) | exact HB.out)) hb.below); clear HB; have HB := n0_; clear n0_ hb; have hcs := Kd.C_string Tryd.underlying22 Tryd.underlying5 Tryd.underlying9 (c := c) (Kd.C_below HC.out HB.out); rw [show strOfNums l = s by rw [HS.out, strOfNums_bytesOf]] at hcs) | ((with_reducible refine gate_callee (f := 6) rfl ?_); refine goesL_ (some 32) rfl rfl Tryd.func6 (by kernel_rfl) rfl #[.string s] rfl (by (try simp only [List.map_toArray, List.map_cons, List.map_nil]); first | done | rfl | (simp only [List.length_drop, List.length_take]; rfl)) ?_; (with_reducible refine (spec_ReadPub.calls kr s r1 r2 n true _ HKR.out).mono ?_); rintro e w2 ⟨rfl, hb⟩; refine ⟨_, rfl, ?_⟩; have n0_ := Aside0.mk (below_step (by repeat (first | (with_reducible first | exact HB.out | apply below_alloc | apply pw_below_drewN | apply below_drew1) | exact HB.out)) hb); clear HB hcs; have HB := n0_; clear n0_ hb; have HNEW := Aside0.mk (heap_alloc_new w2 (.cells #[.string r1, .string r2, .int .i64 n] 25))) | ((with_reducible refine gate_dst (N := 36) rfl ?_); refine Kd.R_lit (Kd.int .u8) _ 5 ?hg (N := 36) ?hd (xs := []) (inner := []) (ok := fun _ => True) (okp := fun _ => True) ?hr ?hp (fun _ hk => hk) trivial (Below.refl _ _) (Nat.le_refl _) (by simp) ?_; (case hd => rfl); (case hg => rfl); (case hr => first | (go_simp; done) | (go_simp; rfl)); (case hp => exact (Reps.none _ _)); intro v1 w_ ho_ hb hg_ hnew_; have nk_ := Aside0.mk ((hg_.block _ (lt_size HNEW.out) (by simp)).trans HNEW.out); have HNB := Aside0.mk (show some (w2.heap.size) ≠ Value.ownBlock v1 by obtain ⟨b_, e1_, e2_⟩ := hnew_; rw [e1_]; intro e_; injection e_ with e_; have := lt_size HNEW.out; omega); clear HNEW; have HNEW := nk_; clear nk_; clear hg_ hnew_; have n0_ := Aside0.mk (Kd.R_lower ho_ (below_size (by repeat (first | (with_reducible first | exact HB.out | apply below_alloc | apply pw_below_drewN | apply below_drew1) | exact HB.out)))); have n1_ := Aside0.mk (below_step (by repeat (first | (with_reducible first | exact HB.out | apply below_alloc | apply pw_below_drewN | apply below_drew1) | exact HB.out)) hb); clear HB; have HO1 := n0_; have HB := n1_; clear n0_ n1_; clear hb ho_) | ((with_reducible refine gate_builtin (b := .append) (xs := #[.tmp 36, .tmp 37]) rfl ?_); at_builtin; refine Kd.R_append_rows (Kd.int .u8) (w0 := w) w.heap.size rfl (.tmp 36) (.tmp 37) 22 5 (.int .u8 0) 1 rfl Tryd.underlying22 info5 rfl (by decide) (by omega) v1 [] l _ _ _ (fun _ => True) (fun _ => False) rfl rfl ?aO ?aR (fun _ _ h => h) (fun _ h => h.elim) ?aF ?aB ?aS ?aL ?_; (case aR => repeat (first | exact (Kd.C_below HC.out HB.out) | (with_reducible refine Kd.C_alloc ?_ _) | (with_reducible refine Kd.C_drewN ?_ _) | (with_reducible refine Kd.C_drew ?_))); (case aB => exact (by repeat (first | (with_reducible first | exact HB.out | apply below_alloc | apply pw_below_drewN | apply below_drew1) | exact HB.out))); (case aF => exact (fun _ _ => trivial)); (case aO => exact (by (with_reducible repeat (first | apply Kd.R_alloc | apply Kd.R_drewN | apply Kd.R_drew)); exact HO1.out)); (case aS => exact (below_size (by repeat (first | (with_reducible first | exact HB.out | apply below_alloc | apply pw_below_drewN | apply below_drew1) | exact HB.out)))); (case aL => have := HL.out; simp; omega); intro v2 w_ ho_ hb hg_ hat_; rw [List.nil_append] at ho_; have nk_ := Aside0.mk ((hg_.block _ (lt_size HNEW.out) HNB.out).trans HNEW.out); clear HNEW HNB; have HNEW := nk_; clear nk_; have n0_ := Aside0.mk hb; have n1_ := Aside0.mk ho_; clear HB; clear HO1; have HB := n0_; have HO2 := n1_; clear n0_ n1_; clear ho_ hb hg_ hat_; obtain ⟨A2, c2, e2⟩ := Kd.R_slice HO2.out; subst e2) | ((with_reducible refine gate_callee (f := 7) rfl ?_); refine goesL_ (some 40) rfl rfl Tryd.func7 (by kernel_rfl) rfl #[.slice A2 l.length c2, .int .i64 lim] rfl (by (try simp only [List.map_toArray, List.map_cons, List.map_nil]); first | done | rfl | (simp only [List.length_drop, List.length_take]; rfl)) ?_; (with_reducible refine (impl_Pub_big A2 c2 l lim _ (Kd.R_reads' (by (with_reducible repeat (first | apply Kd.R_alloc | apply Kd.R_drewN | apply Kd.R_drew)); exact HO2.out)).2.2 (Kd.R_reads' HO2.out).2.1 (by have := HL.out; omega) H1.out H2.out ea (HE.out.below (by repeat (first | (with_reducible first | exact HB.out | apply below_alloc | apply pw_below_drewN | apply below_drew1) | exact HB.out))) HR.out).mono ?_); rintro e w4 ⟨rfl, hb⟩; refine ⟨_, rfl, ?_⟩; have n0_ := Aside0.mk (below_step (by repeat (first | (with_reducible first | exact HB.out | apply below_alloc | apply pw_below_drewN | apply below_drew1) | exact HB.out)) hb); have nk_ := Aside0.mk ((hb.block _ (lt_size HNEW.out)).trans HNEW.out); clear HNEW HB HO2; have HNEW := nk_; have HB := n0_; clear n0_ nk_ hb) | ((with_reducible refine gate_callee (f := 7) rfl ?_); refine goesL_ (some 48) rfl rfl Tryd.func7 (by kernel_rfl) rfl #[.slice (some ⟨_, 0, none⟩) 4 4, .int .i64 (-1)] rfl (by (try simp only [List.map_toArray, List.map_cons, List.map_nil]); first | done | rfl | (simp only [List.length_drop, List.length_take]; rfl)) ?_; (with_reducible refine (lit_pub _ _ _ ea (HE.out.below (by repeat (first | (with_reducible first | exact HB.out | apply below_alloc | apply pw_below_drewN | apply below_drew1) | exact HB.out)))).mono ?_); rintro e w5 ⟨hb, v7, v8, rfl⟩; refine ⟨_, rfl, ?_⟩; have nk_ := Aside0.mk ((hb.block _ (lt_size (alloc_same_heap _ HNEW.out))).trans (alloc_same_heap _ HNEW.out)); have hw_ := below_step (below_alloc (Below.refl _ _) _) hb; have n0_ := Aside0.mk (below_step (by repeat (first | (with_reducible first | exact HB.out | apply below_alloc | apply pw_below_drewN | apply below_drew1) | exact HB.out)) hb); have f0 : World.cell? _ ⟨w2.heap.size, 0, none⟩ = some (.string r1) := (cell_of_heap nk_.out).trans rfl; have f1 : World.cell? _ ⟨w2.heap.size, 1, none⟩ = some (.string r2) := (cell_of_heap nk_.out).trans rfl; have f2 : World.cell? _ ⟨w2.heap.size, 2, none⟩ = some (.int .i64 n) := (cell_of_heap nk_.out).trans rfl; clear HNEW HB; have HB := n0_; clear n0_ nk_ hb hw_))
    go_ret
    exact ⟨rfl, by repeat (first | (with_reducible first | exact HB.out | apply below_alloc | apply pw_below_drewN | apply below_drew1) | exact HB.out)⟩
set_option maxHeartbeats 8000000 in
set_option maxRecDepth 100000 in
theorem FnPub_long (A : Option Addr) (c : Nat) (l : List Int) (lim : Int) (w : World) (h : 2147483647 < l.length) :
    Calls Tryd.prog 3 #[.slice A l.length c, .int .i64 lim] w fun e w' => e = .returned (.bool true) ∧ Below w.heap.size w w' := by
  have d1 : decide (2147483647 < (l.length : Int)) = true := decide_eq_true (by omega)
  have d2 : decide (2147483647 < l.length) = true := decide_eq_true h
  clear h
  go_enter Tryd.func3, Tryd.ntmps3
  go_wp2
  go_ret
  exact ⟨rfl, Below.refl _ _⟩
set_option maxHeartbeats 8000000 in
set_option maxRecDepth 100000 in
theorem FnPub_out (A : Option Addr) (c : Nat) (l : List Int) (lim : Int) (w : World) (hC : Kd.C (Kd.int .u8) w A l.length l) (hcp : l.length ≤ c) (hl : l.length ≤ 2147483647) (kw : Nat) (t : Bool) (hkw : laws_within.f kw l = some t) (ht : t = false ∨ lim < -1 ∨ 2147483647 < lim) :
    Calls Tryd.prog 3 #[.slice A l.length c, .int .i64 lim] w fun e w' => e = .returned (.bool true) ∧ Below w.heap.size w w' := by
  have HB := Aside0.mk (Below.refl w.heap.size w)
  have d1 : decide (2147483647 < (l.length : Int)) = false := decide_eq_false (by omega)
  have d2 : decide (2147483647 < l.length) = false := decide_eq_false (by omega)
  have HC := Aside0.mk hC
  have HP := Aside0.mk hcp
  have HKW := Aside0.mk hkw
  have hcase : (t = false ∧ True ∧ True) ∨ (t = true ∧ decide (lim < -1) = true ∧ True) ∨ (t = true ∧ decide (lim < -1) = false ∧ decide (2147483647 < lim) = true) := by
    cases t with
    | false => exact .inl ⟨rfl, trivial, trivial⟩
    | true =>
      by_cases h1 : lim < -1
      · exact .inr (.inl ⟨rfl, decide_eq_true h1, trivial⟩)
      · rcases ht with h | h | h
        · simp at h
        · exact absurd h h1
        · exact .inr (.inr ⟨rfl, decide_eq_false h1, decide_eq_true h⟩)
  clear hC hcp hl hkw ht
  rcases hcase with ⟨rfl, d3, d4⟩ | ⟨rfl, d3, d4⟩ | ⟨rfl, d3, d4⟩
  all_goals
    go_enter Tryd.func3, Tryd.ntmps3
    go_wp2_with (((with_reducible refine gate_callee (f := 5) rfl ?_); refine goesL_ (some 19) rfl rfl Tryd.func5 (by kernel_rfl) rfl #[.slice A l.length c] rfl (by (try simp only [List.map_toArray, List.map_cons, List.map_nil]); first | done | rfl | (simp only [List.length_drop, List.length_take]; rfl)) ?_; (with_reducible refine (laws_within.calls kw A c l _ _ HC.out HP.out HKW.out).mono ?_); rintro e w1 ⟨rfl, hb⟩; refine ⟨_, rfl, ?_⟩; have n0_ := Aside0.mk (below_step (by repeat (first | (with_reducible first | exact HB.out | apply below_alloc | apply pw_below_drewN | apply below_drew1) | exact HB.out)) hb.below); clear HB; have HB := n0_; clear n0_ hb))
    go_ret
    exact ⟨rfl, by repeat (first | (with_reducible first | exact HB.out | apply below_alloc | apply pw_below_drewN | apply below_drew1) | exact HB.out)⟩
def laws_FnPub.f (l0 : List Int) (a1 : Int) : Option Bool := if ∀ x ∈ l0, 0 ≤ x ∧ x < 256 then some true else none
theorem nums_bytes {l : List Int} (h : ∀ x ∈ l, 0 ≤ x ∧ x < 256) : ∃ s : ByteArray, l = bytesOf s := by
  refine ⟨mkB (l.map fun x => UInt8.ofNat x.toNat), ?_⟩
  rw [bytesOf_mkB, List.map_map]
  conv => lhs; rw [← List.map_id l]
  apply List.map_congr_left
  intro x hx
  have := h x hx
  simp only [id, Function.comp, UInt8.toNat_ofNat']
  omega
theorem son_seg (s : ByteArray) (p : Nat × Nat) : strOfNums (seg (bytesOf s) p) = cutS s p := by rw [seg_cut, strOfNums_bytesOf]
theorem son_nil : strOfNums [] = (⟨#[]⟩ : ByteArray) := by
  apply bl_inj
  simp [strOfNums, bl]
theorem laws_FnPub.calls (A0 : Option Addr) (c0 : Nat) (l0 : List Int) (a1 : Int) (r : Bool) (w : World) (hr0 : Kd.C (Kd.int .u8) w A0 l0.length l0) (hc0 : l0.length ≤ c0) (h : laws_FnPub.f l0 a1 = some r) (hE : MaxOk w) :
    Calls Tryd.prog 3 #[.slice A0 l0.length c0, .int .i64 a1] w fun e w' => e = .returned (.bool r) ∧ Below w.heap.size w w' := by
  unfold laws_FnPub.f at h
  split at h
  · rename_i hb
    obtain rfl := Option.some.inj h
    obtain ⟨ea, hE⟩ := hE
    by_cases hl : 2147483647 < l0.length
    · exact FnPub_long A0 c0 l0 a1 w hl
    · obtain ⟨t, ht, hw⟩ := within_ev l0 (by omega)
      obtain ⟨kw, hkw⟩ := Ev.rounds ht
      by_cases ho : t = false ∨ a1 < -1 ∨ 2147483647 < a1
      · exact FnPub_out A0 c0 l0 a1 w hr0 hc0 (by omega) kw t hkw ho
      · have htt : t = true := by cases t with | true => rfl | false => exact absurd (.inl rfl) ho
        subst htt
        obtain ⟨h200, hnl⟩ := hw rfl
        obtain ⟨s, hs⟩ := nums_bytes hb
        have hsz : s.size = l0.length := by rw [hs, bytesOf_length]
        have h1 : -1 ≤ a1 := Int.not_lt.1 fun h => ho (.inr (.inl h))
        have h2 : a1 ≤ 2147483647 := Int.not_lt.1 fun h => ho (.inr (.inr h))
        obtain ⟨kr, hkr⟩ := Ev.rounds (ReadPub_ev s (by omega) (fun i hi => by rw [← rd_bytesOf, ← hs]; exact hnl i (by omega)))
        rw [← hs] at hkr
        have fin : ∀ (p z : Nat × Nat) (r : Option (Nat × Nat)), pubW (spans l0 0 (-1)) l0 a1 = .ok p r (psz (seg l0 z)) → ¬ psz (seg l0 z) < 0 → (a1 = -1 ∨ ¬ a1 < psz (seg l0 z)) →
            spec_ReadPub.f kr s = some (strOfNums (seg l0 p), strOfNums (segO l0 r), psz (seg l0 z), decide (psz (seg l0 z) ≥ 0)) →
            Calls Tryd.prog 3 #[.slice A0 l0.length c0, .int .i64 a1] w fun e w' => e = .returned (.bool true) ∧ Below w.heap.size w w' := by
          intro p z r hR hn hlim hk
          rw [decide_eq_true (by omega)] at hk
          exact FnPub_ok A0 c0 s l0 hs a1 w hr0 hc0 h200 h1 h2 ea hE kw hkw kr p r _ hR hk (by omega)
        rcases pub_cases (spans l0 0 (-1)) l0 a1 with ⟨p, z, hws, hR, hq⟩ | ⟨p, z, hws, hR, hq⟩ | ⟨p, z, hws, hR, hq⟩ | ⟨p, z, hws, hR, hq⟩ | ⟨p, r, z, hws, hR, hq⟩ | ⟨p, r, z, hws, hR, hq⟩ | ⟨p, r, z, hws, hR, hq⟩ | ⟨p, r, z, hws, hR, hq⟩ | ⟨hR, hn2, hn3⟩
        · rw [hws, rp, ← hs, decide_eq_false (by omega)] at hkr
          exact FnPub_bad A0 c0 s l0 hs a1 w hr0 hc0 h200 h1 h2 ea hE kw hkw kr _ _ _ hR hkr
        · rw [hws, rp, ← hs, decide_eq_true (by omega)] at hkr
          exact FnPub_big A0 c0 s l0 hs a1 w hr0 hc0 h200 h1 h2 ea hE kw hkw kr _ _ _ hR hkr (by omega) hq.2.2
        · rw [hws, rp, ← hs] at hkr
          exact fin p z none hR hq.1 (.inl hq.2) (by rw [hkr, hs, son_seg]; exact congrArg (fun x => some (cutS s p, x, _, _)) son_nil.symm)
        · rw [hws, rp, ← hs] at hkr
          exact fin p z none hR hq.1 (.inr hq.2.2) (by rw [hkr, hs, son_seg]; exact congrArg (fun x => some (cutS s p, x, _, _)) son_nil.symm)
        · rw [hws, rp, ← hs, decide_eq_false (by omega)] at hkr
          exact FnPub_bad A0 c0 s l0 hs a1 w hr0 hc0 h200 h1 h2 ea hE kw hkw kr _ _ _ hR hkr
        · rw [hws, rp, ← hs, decide_eq_true (by omega)] at hkr
          exact FnPub_big A0 c0 s l0 hs a1 w hr0 hc0 h200 h1 h2 ea hE kw hkw kr _ _ _ hR hkr (by omega) hq.2.2
        · rw [hws, rp, ← hs] at hkr
          exact fin p z (some r) hR hq.1 (.inl hq.2) (by rw [hkr, hs, son_seg]; exact congrArg (fun x => some (cutS s p, x, _, _)) (son_seg s r).symm)
        · rw [hws, rp, ← hs] at hkr
          exact fin p z (some r) hR hq.1 (.inr hq.2.2) (by rw [hkr, hs, son_seg]; exact congrArg (fun x => some (cutS s p, x, _, _)) (son_seg s r).symm)
        · have : rp s (spans l0 0 (-1)) = ((⟨#[]⟩ : ByteArray), (⟨#[]⟩ : ByteArray), (0 : Int), false) := by
            generalize spans l0 0 (-1) = ws at hn2 hn3
            match ws, hn2, hn3 with
            | [], _, _ => rfl
            | [a], _, _ => rfl
            | [a, b], h, _ => exact absurd rfl h
            | [a, b, c], _, h => exact absurd rfl h
            | a :: b :: c :: d :: e, _, _ => rfl
          rw [this] at hkr
          exact FnPub_bad A0 c0 s l0 hs a1 w hr0 hc0 h200 h1 h2 ea hE kw hkw kr _ _ _ hR hkr
  · exact absurd h (by simp)
end



/-- THE ONE PURE STATEMENT of laws_FnPub: yours. -/
def laws_FnPub.Pure : Prop := ∀ (l0 : List Int) (a1 : Int), l0.length ≤ maxLen → l0.length * 1 ≤ 140737488351232 → (∀ x ∈ l0, (Lit.int .u8 x).wf = true) → (Lit.int .i64 a1).wf = true → laws_FnPub.f l0 a1 = some true
theorem laws_FnPub.walk (P : laws_FnPub.Pure) (a0 : Option Addr) (len0 cap0 : Nat) (z0 : List Int) (a1 : Int) (w : World) (w0 : (a0 = none ∧ len0 = 0 ∧ cap0 = 0 ∧ z0 = []) ∨ ∃ x, a0 = some x ∧ len0 ≤ cap0 ∧ cap0 ≤ maxLen ∧ z0.length = cap0 ∧ (∀ i, i < z0.length → w.cell? (x.add i) = some (.int .u8 (z0.getD i 0))) ∧ ∀ n ∈ z0, (Lit.int .u8 n).wf = true) (y0 : len0 * 1 ≤ 140737488351232) (w1 : (Lit.int .i64 a1).wf = true) (hE_ : Go.Proofs.YtaobajfdnidkfaaDoor.PFnPub.MaxOk w) :
    Calls Tryd.prog 3 #[.slice a0 len0 cap0, .int .i64 a1] w fun e w' => e = .returned (.bool true) ∧ Below w.heap.size w w' := by
  obtain ⟨l0, rfl, hr0, hm0, hw0, hc0⟩ := ReadsInt.ofRowC w0
  have h := P l0 a1 hm0 y0 hw0 w1
  refine (laws_FnPub.calls _ _ l0 a1 true w (Kd.C_of_reads (d := (0 : Int)) (h1 := fun _ => rfl) hr0) hc0 h hE_).mono ?_
  rintro e w' ⟨rfl, hd⟩
  exact ⟨rfl, hd⟩

end Go.Proofs.YtaobajfdnidkfaaDoor.PFnPub
