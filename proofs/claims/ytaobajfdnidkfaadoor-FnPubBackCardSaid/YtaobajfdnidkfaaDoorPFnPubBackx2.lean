-- Written by hprint.py (this session's program, over the kit's printing program, with this session's own contracts in it). Not trusted: Lean checks it.
import Derived.Test.YtaobajfdnidkfaaDoorPFnPubBackx0
import Derived.Test.YtaobajfdnidkfaaDoorPFnPubBackx1
namespace Go.Proofs.YtaobajfdnidkfaaDoor.PFnPubBack
open Go.RowKit Go.Proofs.YtaobajfdnidkfaaDoorW.PrintWords Go.Proofs.YtaobajfdnidkfaaDoorW.PrintLast Go.Proofs.YtaobajfdnidkfaaDoorW.PrintMore
attribute [local go_sem] max2_int min2_int max_two min_two max_three min_three max_four min_four   -- for this text's walks alone
set_option linter.unusedVariables false
set_option linter.unusedSimpArgs false

/-! ### impl_Pub: function 7 -/
section
open _root_.Go.Proofs.YtaobajfdnidkfaaDoor.Road
/-- Where the words stand. -/
def blk (x : Int) : Bool := x == 32 || x == 9
def spans : List Int → Nat → Int → List (Nat × Nat)
  | [], i, st => if 0 ≤ st then [(st.toNat, i)] else []
  | x :: l, i, st => if blk x then (if 0 ≤ st then (st.toNat, i) :: spans l (i + 1) (-1) else spans l (i + 1) (-1)) else spans l (i + 1) (if 0 ≤ st then st else (i : Int))
/-- A word, as a cut of what was given. -/
def sv (ad : Addr) (c : Nat) (p : Nat × Nat) : Value := .slice (some (ad.add p.1)) (p.2 - p.1) (c - p.1)
def PubAt (l : List Int) (out : List (Nat × Nat)) (st : Int) (k : Nat) : Prop :=
  k ≤ l.length ∧ (st = -1 ∨ (0 ≤ st ∧ st < k)) ∧ out.length ≤ k ∧ out ++ spans (l.drop k) k st = spans l 0 (-1)
theorem PubAt.start (l : List Int) : PubAt l [] (-1) 0 := ⟨by omega, .inl rfl, by simp, by simp⟩
theorem PubAt.cut {l : List Int} {out : List (Nat × Nat)} {a k : Nat} (h : PubAt l out (a : Int) k) (hk : k < l.length) (hb : blk (rd l (k : Int)) = true) : PubAt l (out ++ [(a, k)]) (-1) (k + 1) := by
  obtain ⟨h1, h2, h3, h4⟩ := h
  refine ⟨by omega, .inl rfl, by simp; omega, ?_⟩
  rw [← h4, List.drop_eq_getElem_cons hk, spans]
  have e : l[k] = rd l (k : Int) := by simp [rd, hk]
  rw [e, if_pos hb, if_pos (by omega)]
  simp
theorem PubAt.gap {l : List Int} {out : List (Nat × Nat)} {st : Int} {k : Nat} (h : PubAt l out st k) (hs : st < 0) (hk : k < l.length) (hb : blk (rd l (k : Int)) = true) : PubAt l out st (k + 1) := by
  obtain ⟨h1, h2, h3, h4⟩ := h
  obtain rfl : st = -1 := by omega
  refine ⟨by omega, .inl rfl, by omega, ?_⟩
  rw [← h4, List.drop_eq_getElem_cons hk, spans]
  have e : l[k] = rd l (k : Int) := by simp [rd, hk]
  rw [e, if_pos hb, if_neg (by omega)]
theorem PubAt.begin {l : List Int} {out : List (Nat × Nat)} {st : Int} {k : Nat} (h : PubAt l out st k) (hs : st < 0) (hk : k < l.length) (hb : blk (rd l (k : Int)) = false) : PubAt l out (k : Int) (k + 1) := by
  obtain ⟨h1, h2, h3, h4⟩ := h
  obtain rfl : st = -1 := by omega
  refine ⟨by omega, .inr ⟨by omega, by omega⟩, by omega, ?_⟩
  rw [← h4, List.drop_eq_getElem_cons hk, spans]
  have e : l[k] = rd l (k : Int) := by simp [rd, hk]
  rw [e, hb, if_neg (by simp), if_neg (by omega)]
theorem PubAt.on {l : List Int} {out : List (Nat × Nat)} {a k : Nat} (h : PubAt l out (a : Int) k) (hk : k < l.length) (hb : blk (rd l (k : Int)) = false) : PubAt l out (a : Int) (k + 1) := by
  obtain ⟨h1, h2, h3, h4⟩ := h
  refine ⟨by omega, .inr ⟨by omega, by omega⟩, by omega, ?_⟩
  rw [← h4, List.drop_eq_getElem_cons hk, spans]
  have e : l[k] = rd l (k : Int) := by simp [rd, hk]
  rw [e, hb, if_neg (by simp), if_pos (by omega)]
theorem PubAt.last {l : List Int} {out : List (Nat × Nat)} {a k : Nat} (h : PubAt l out (a : Int) k) (hk : ¬ k < l.length) : out ++ [(a, l.length)] = spans l 0 (-1) := by
  obtain ⟨h1, h2, h3, h4⟩ := h
  obtain rfl : k = l.length := by omega
  rw [← h4, List.drop_length, spans, if_pos (by omega)]
  simp
theorem PubAt.done {l : List Int} {out : List (Nat × Nat)} {st : Int} {k : Nat} (h : PubAt l out st k) (hs : st < 0) (hk : ¬ k < l.length) : out = spans l 0 (-1) := by
  obtain ⟨h1, h2, h3, h4⟩ := h
  obtain rfl : k = l.length := by omega
  rw [← h4, List.drop_length, spans, if_neg (by omega)]
  simp
theorem sl_info : (Tryd.prog.info? 22).map (fun i => (i.zero, i.size, i.bytes)) = some (some (.slice none 0 0), 1, 24) := by kernel_rfl
theorem oneCell_sv (ad : Addr) (c : Nat) (p : Nat × Nat) : (sv ad c p).oneCell' = true := rfl
theorem cellC {w : World} {ad : Addr} {l : List Int} (hC : Kd.C (Kd.int .u8) w (some ad) l.length l) (k : Nat) (hk : k < l.length) : w.cell? (ad.add k) = some (.int .u8 (rd l (k : Int))) := by
  have hrd := Kd.reads_of_C (enc := Value.int .u8) (d := (0 : Int)) (h1 := fun _ => rfl) hC
  obtain ⟨ad', e, hc⟩ := hrd.2.2 (by omega)
  obtain rfl := Option.some.inj e
  rw [hc k hk]
  simp [rd]
def arr3 : Array Value := #[.slice none 0 0, .slice none 0 0, .slice none 0 0]
theorem arr3_row (w : World) (T : TypeId) : AnyRow (w.alloc (.cells arr3 T)) w.heap.size 1 (.slice (some ⟨w.heap.size, 0, none⟩) 0 3) 0 [] :=
  AnyRow.start (Nat.le_refl _) (heap_alloc_new w (.cells arr3 T)) (by unfold maxLen; omega) rfl
/-- What the arguments say. -/
inductive PubRes where
  | ok (s : Nat × Nat) (r : Option (Nat × Nat)) (z : Int)
  | bad
  | big
def seg (l : List Int) (p : Nat × Nat) : List Int := (l.drop p.1).take (p.2 - p.1)
def psz (l : List Int) : Int := if l.length = 0 ∨ 9 < l.length then -1 else sizeGo 0 l
def pubFin (mp : Int) (s : Nat × Nat) (r : Option (Nat × Nat)) (n : Int) : PubRes := if n < 0 then .bad else if mp ≠ -1 ∧ mp < n then .big else .ok s r n
def pubW (ws : List (Nat × Nat)) (l : List Int) (mp : Int) : PubRes :=
  match ws with
  | [s, z] => pubFin mp s none (psz (seg l z))
  | [s, r, z] => pubFin mp s (some r) (psz (seg l z))
  | _ => .bad
/-- What the arguments come to, of the client's cells and the error. -/
def PRes (w : World) (cb : Nat) (ad ea : Addr) (c : Nat) (er v4 v5 v8 : Value) : PubRes → Prop
  | .ok s r z => er = .nilIface ∧ v4 = sv ad c s ∧ v5 = (match r with | none => .slice none 0 0 | some r => sv ad c r) ∧ v8 = .int .i64 z
  | .bad => ∃ b s, er = .iface 56 (.pointer (some ⟨b, 0, none⟩)) ∧ cb < b ∧ w.heap[b]? = some (.cells #[.string s] 58 (0, 0))
  | .big => er = .iface 56 (.pointer (some ea))
theorem PRes.heap {w w' : World} {cb : Nat} {ad ea : Addr} {c : Nat} {er v4 v5 v8 : Value} {R : PubRes} (h : PRes w cb ad ea c er v4 v5 v8 R) (e : w'.heap = w.heap) : PRes w' cb ad ea c er v4 v5 v8 R := by
  cases R <;> simp only [PRes, e] at h ⊢ <;> exact h
/-- The client behind a call: what its cells are; all elder blocks are as they were. -/
def PPost (w : World) (cb : Nat) (ad ea : Addr) (c : Nat) (R : PubRes) (e : Ending) (w' : World) : Prop :=
  ∃ er cells v4 v5 v8, e = .returned er ∧ w'.heap[cb]? = some (.cells cells 47 (0, 0)) ∧ Below cb w w' ∧ cb < w'.heap.size ∧ cells[4]? = some v4 ∧ cells[5]? = some v5 ∧ cells[8]? = some v8 ∧ PRes w' cb ad ea c er v4 v5 v8 R
theorem below_mono {w w' : World} {cb : Nat} (h : Below w.heap.size w w') (hs : w.heap.size = cb + 1) : Below cb w w' := h.mono (by omega)
theorem lt_size {w : World} {g : Nat} {o : Obj} (h : w.heap[g]? = some o) : g < w.heap.size := (Array.getElem?_eq_some_iff.1 h).1
theorem alloc_same_heap {w : World} {g : Nat} {o' : Obj} (o : Obj) (h : w.heap[g]? = some o') : (w.alloc o).heap[g]? = some o' := (Below.heap_alloc w o g (lt_size h)).trans h
theorem new_at {W : World} {n : Nat} {o : Obj} (h : n = W.heap.size) : (W.alloc o).heap[n]? = some o := by subst h; exact heap_alloc_new W o
theorem drewN_same_heap {w : World} {g : Nat} {o' : Option Obj} (n : Nat) (h : w.heap[g]? = o') : (w.drewN n).heap[g]? = o' := h
theorem drew_same_heap {w : World} {g : Nat} {o' : Option Obj} (h : w.heap[g]? = o') : w.drew.heap[g]? = o' := h
theorem setCell_size (w : World) (a : Addr) (v : Value) : (w.setCell a v).heap.size = w.heap.size := by simp [World.setCell]
theorem drewN_size (w : World) (n : Nat) : (w.drewN n).heap.size = w.heap.size := rfl
theorem PPost.of {w w' : World} {cb : Nat} {ad ea : Addr} {c : Nat} {R : PubRes} {er v4 v5 v8 : Value} {cells : Array Value} (h1 : w'.heap[cb]? = some (.cells cells 47 (0, 0))) (h2 : Below cb w w')
    (h4 : cells[4]? = some v4) (h5 : cells[5]? = some v5) (h8 : cells[8]? = some v8) (h3 : PRes w' cb ad ea c er v4 v5 v8 R) : PPost w cb ad ea c R (.returned er) w' := ⟨er, cells, v4, v5, v8, rfl, h1, h2, lt_size h1, h4, h5, h8, h3⟩
theorem errors_New.walk (s : ByteArray) (w : World) : Calls Tryd.prog 23 #[.string s] w fun e w' => e = .returned (.iface 56 (.pointer (some ⟨w.heap.size, 0, none⟩))) ∧ w' = w.alloc (.cells #[.string s] 58) := by
  go_enter Tryd.func23, Tryd.ntmps23
  go_wp2
  go_ret
  exact ⟨rfl, rfl⟩
theorem spans_in : ∀ (l : List Int), ∀ p ∈ spans l 0 (-1), p.1 < p.2 ∧ p.2 ≤ l.length := by
  have key : ∀ (l : List Int) (i : Nat) (st : Int), (st = -1 ∨ (0 ≤ st ∧ st < i)) → ∀ p ∈ spans l i st, p.1 < p.2 ∧ p.2 ≤ i + l.length := by
    intro l
    induction l with
    | nil =>
      intro i st hs p hp
      unfold spans at hp
      split at hp
      · rw [List.mem_singleton.1 hp]; simp only [List.length_nil]; omega
      · simp at hp
    | cons x l ih =>
      intro i st hs p hp
      unfold spans at hp
      split at hp
      · split at hp
        · rcases List.mem_cons.1 hp with hp | hp
          · rw [hp]; simp only [List.length_cons]; omega
          · have := ih (i + 1) (-1) (.inl rfl) p hp; simp only [List.length_cons]; omega
        · have := ih (i + 1) (-1) (.inl rfl) p hp; simp only [List.length_cons]; omega
      · have := ih (i + 1) _ (by split <;> omega) p hp
        simp only [List.length_cons]; omega
  intro l p hp
  have := key l 0 (-1) (.inl rfl) p hp
  omega
theorem seg_len {l : List Int} {z : Nat × Nat} (h : z.1 < z.2 ∧ z.2 ≤ l.length) : (seg l z).length = z.2 - z.1 := by
  unfold seg
  simp
  omega
theorem add_block (a : Addr) (k : Nat) : (a.add k).block = a.block := by unfold Addr.add; split <;> rfl
theorem cut_C (w : World) (ad : Addr) (l : List Int) (k m : Nat) (hC : Kd.C (Kd.int .u8) w (some ad) l.length l) (hkm : k + m ≤ l.length) : Kd.C (Kd.int .u8) w (some (ad.add k)) ((l.drop k).take m).length ((l.drop k).take m) := by
  have hrd := Kd.reads_of_C (enc := Value.int .u8) (d := (0 : Int)) (h1 := fun _ => rfl) hC
  have hlen : ((l.drop k).take m).length = m := by simp; omega
  have hsm : l.length ≤ maxLen := hrd.2.1
  refine Kd.C_of_reads (enc := Value.int .u8) (d := (0 : Int)) (h1 := fun _ => rfl) ⟨rfl, by rw [hlen]; simp only [maxLen] at hsm ⊢; omega, fun hn => ⟨_, rfl, fun j hj => ?_⟩⟩
  rw [hlen] at hj
  obtain ⟨ad', e, hc⟩ := hrd.2.2 (by omega)
  obtain rfl := Option.some.inj e
  have ea : (ad.add k).add j = ad.add (k + j) := by unfold Addr.add; split <;> split <;> simp_all [Nat.add_assoc]
  rw [ea, hc (k + j) (by omega)]
  simp [List.getD_eq_getElem?_getD, List.getElem?_take, hj, List.getElem?_drop]
theorem cut_C' {w : World} {ad : Addr} {l : List Int} {z : Nat × Nat} (hC : Kd.C (Kd.int .u8) w (some ad) l.length l) (h : z.1 + (z.2 - z.1) ≤ l.length) (hl : (seg l z).length = z.2 - z.1) : Kd.C (Kd.int .u8) w (some (ad.add z.1)) (z.2 - z.1) (seg l z) := by
  have := cut_C w ad l z.1 (z.2 - z.1) hC h
  unfold seg at hl ⊢
  rwa [hl] at this
theorem C_setCell2 {k : IntKind} {w : World} {ad : Addr} {n : Nat} {xs : List Int} {g : Nat} (h : Kd.C (Kd.int k) w (some ad) n xs) (hne : ad.block ≠ g) (i : Nat) (v : Value) : Kd.C (Kd.int k) (w.setCell ⟨g, i, none⟩ v) (some ad) n xs :=
  C_setCell h _ v (fun a e => by rw [← Option.some.inj e]; exact hne)
theorem ps_at (ad : Addr) (c : Nat) (l : List Int) (z : Nat × Nat) : ∀ W : World, Kd.C (Kd.int .u8) W (some (ad.add z.1)) (seg l z).length (seg l z) → (seg l z).length ≤ c - z.1 →
    Calls Tryd.prog 22 #[.slice (some (ad.add z.1)) (seg l z).length (c - z.1)] W fun e w' => e = .returned (.int .i64 (psz (seg l z))) ∧ Drawn0 W w' :=
  fun W hC hc => server_parseSize.calls (some (ad.add z.1)) (c - z.1) (seg l z) (psz (seg l z)) W hC hc rfl
theorem ld_mpay : ∀ (cb : Nat) (mp : Int) (W : World), W.cell? ⟨cb, 1, none⟩ = some (.int .i32 mp) → (callFunc 24 #[.pointer (some ⟨cb, 1, none⟩)]).run Tryd.prog W = .ok (.value (.int .i32 mp)) W :=
  fun cb mp W h => run_call_load (P := Tryd.prog) Tryd.func24 (by kernel_rfl) (by kernel_rfl) (by kernel_rfl) .i32 (by kernel_rfl) h
theorem pub_cases (ws : List (Nat × Nat)) (l : List Int) (mp : Int) :
    (∃ s z, ws = [s, z] ∧ pubW ws l mp = .bad ∧ psz (seg l z) < 0) ∨
    (∃ s z, ws = [s, z] ∧ pubW ws l mp = .big ∧ ¬ psz (seg l z) < 0 ∧ mp ≠ -1 ∧ mp < psz (seg l z)) ∨
    (∃ s z, ws = [s, z] ∧ pubW ws l mp = .ok s none (psz (seg l z)) ∧ ¬ psz (seg l z) < 0 ∧ mp = -1) ∨
    (∃ s z, ws = [s, z] ∧ pubW ws l mp = .ok s none (psz (seg l z)) ∧ ¬ psz (seg l z) < 0 ∧ mp ≠ -1 ∧ ¬ mp < psz (seg l z)) ∨
    (∃ s r z, ws = [s, r, z] ∧ pubW ws l mp = .bad ∧ psz (seg l z) < 0) ∨
    (∃ s r z, ws = [s, r, z] ∧ pubW ws l mp = .big ∧ ¬ psz (seg l z) < 0 ∧ mp ≠ -1 ∧ mp < psz (seg l z)) ∨
    (∃ s r z, ws = [s, r, z] ∧ pubW ws l mp = .ok s (some r) (psz (seg l z)) ∧ ¬ psz (seg l z) < 0 ∧ mp = -1) ∨
    (∃ s r z, ws = [s, r, z] ∧ pubW ws l mp = .ok s (some r) (psz (seg l z)) ∧ ¬ psz (seg l z) < 0 ∧ mp ≠ -1 ∧ ¬ mp < psz (seg l z)) ∨
    (pubW ws l mp = .bad ∧ ws.length ≠ 2 ∧ ws.length ≠ 3) := by
  have fin : ∀ s r n, (pubFin mp s r n = .bad ∧ n < 0) ∨ (pubFin mp s r n = .big ∧ ¬ n < 0 ∧ mp ≠ -1 ∧ mp < n) ∨ (pubFin mp s r n = .ok s r n ∧ ¬ n < 0 ∧ mp = -1) ∨ (pubFin mp s r n = .ok s r n ∧ ¬ n < 0 ∧ mp ≠ -1 ∧ ¬ mp < n) := by
    intro s r n
    unfold pubFin
    by_cases h1 : n < 0
    · exact .inl ⟨if_pos h1, h1⟩
    · rw [if_neg h1]
      by_cases h2 : mp = -1
      · exact .inr (.inr (.inl ⟨if_neg (fun h => h.1 h2), h1, h2⟩))
      · by_cases h3 : mp < n
        · exact .inr (.inl ⟨if_pos ⟨h2, h3⟩, h1, h2, h3⟩)
        · exact .inr (.inr (.inr ⟨if_neg (fun h => h3 h.2), h1, h2, h3⟩))
  match ws with
  | [] => exact .inr (.inr (.inr (.inr (.inr (.inr (.inr (.inr ⟨rfl, by simp, by simp⟩)))))))
  | [a] => exact .inr (.inr (.inr (.inr (.inr (.inr (.inr (.inr ⟨rfl, by simp, by simp⟩)))))))
  | [s, z] =>
    rcases fin s none (psz (seg l z)) with h | h | h | h
    · exact .inl ⟨s, z, rfl, h⟩
    · exact .inr (.inl ⟨s, z, rfl, h⟩)
    · exact .inr (.inr (.inl ⟨s, z, rfl, h⟩))
    · exact .inr (.inr (.inr (.inl ⟨s, z, rfl, h⟩)))
  | [s, r, z] =>
    rcases fin s (some r) (psz (seg l z)) with h | h | h | h
    · exact .inr (.inr (.inr (.inr (.inl ⟨s, r, z, rfl, h⟩))))
    · exact .inr (.inr (.inr (.inr (.inr (.inl ⟨s, r, z, rfl, h⟩)))))
    · exact .inr (.inr (.inr (.inr (.inr (.inr (.inl ⟨s, r, z, rfl, h⟩))))))
    · exact .inr (.inr (.inr (.inr (.inr (.inr (.inr (.inl ⟨s, r, z, rfl, h⟩)))))))
  | a :: b :: c :: d :: t => exact .inr (.inr (.inr (.inr (.inr (.inr (.inr (.inr ⟨rfl, by simp, by simp⟩)))))))
theorem beq_lits2 : (((2 : Nat) : Int) == 2) = true := rfl
theorem beq_lits3 : (((3 : Nat) : Int) == 3) = true := rfl
set_option maxHeartbeats 8000000 in
set_option maxRecDepth 100000 in
theorem processPub.walk (cb : Nat) (mp : Int) (ad : Addr) (c : Nat) (l : List Int) (w : World) (hne : 0 < l.length) (hC : Kd.C (Kd.int .u8) w (some ad) l.length l) (hcp : l.length ≤ c) (hl : l.length ≤ 2147483647) (hcm : c ≤ maxLen)
    (hcb : w.heap[cb]? = some (.cells #[.int .i64 0, .int .i32 mp, .bool false, .slice none 0 0, .slice none 0 0, .slice none 0 0, .slice none 0 0, .slice none 0 0, .int .i64 0, .int .i64 0] 47 (0, 0)))
    (hsz : w.heap.size = cb + 1) (hab : ad.block < cb) (ea : Addr) (hE : w.cell? ⟨0, 0, none⟩ = some (.iface 56 (.pointer (some ea)))) (h0 : 0 < cb) (hmp : wrap64 mp = mp) :
    Calls Tryd.prog 17 #[.pointer (some ⟨cb, 0, none⟩), .slice (some ad) l.length c] w (PPost w cb ad ea c (pubW (spans l 0 (-1)) l mp)) := by
  have HC := Aside0.mk hC
  have HP := Aside0.mk hcp
  have HL := Aside0.mk hl
  have HCB := Aside0.mk hcb
  have HSZ := Aside0.mk hsz
  have HAB := Aside0.mk hab
  have HE := Aside0.mk hE
  have H0 := Aside0.mk h0
  have HMP := Aside0.mk hmp
  clear hmp
  clear hE h0 hC hcp hl hcb hsz hab hcm hne
  go_enter Tryd.func17, Tryd.ntmps17
  go_wp2
  go_loopw [6, 7, 15] (fun v6 v7 v15 w' => ∃ (out : List (Nat × Nat)) (st : Int) (k : Nat), v7 = .int .i64 st ∧ v15 = .int .i64 (k : Int) ∧ Aside0 (PubAt l out st k) ∧ Aside0 (AnyRow w' w.heap.size 1 v6 out.length (out.map (sv ad c))) ∧ Aside0 (Below w.heap.size w w')) (fun _ _ v15 _ => Road.leftOf l.length v15)
  case atStart => exact ⟨[], -1, 0, rfl, rfl, ⟨PubAt.start l⟩, ⟨arr3_row w _⟩, ⟨below_alloc (Below.refl _ _) _⟩⟩
  case round =>
    obtain ⟨out, st, k, rfl, rfl, HT, HR, HB⟩ := hrel
    have hkl := HT.out.1
    have hol : out.length ≤ 2147483647 := by have := HT.out.2.2.1; have := HL.out; omega
    have HOL := Aside0.mk hol
    by_cases hk : k < l.length
    · have hcell := cellC (Kd.C_below HC.out HB.out) k hk
      have q1 : decide ((k : Int) < (l.length : Int)) = true := decide_eq_true (by omega)
      have q2 : decide (k < l.length) = true := decide_eq_true hk
      have q3 := eq_true hk
      have q4 := eq_true (show (k : Int) < (l.length : Int) by omega)
      have q5 := eq_true (show (0 : Int) ≤ (k : Int) by omega)
      have q6 := eq_true (show k ≤ c by have := HP.out; omega)
      have q7 := eq_true (show (k : Int) ≤ (c : Int) by have := HP.out; omega)
      have HK := Aside0.mk hk
      have HM : Aside0 (wrap64 ((k : Int) + 1) = ((k + 1 : Nat) : Int)) := ⟨wrap_nat k (by have := HL.out; omega)⟩
      clear hkl hol
      obtain ⟨x, hx⟩ : ∃ x, x = rd l (k : Int) := ⟨_, rfl⟩
      rw [← hx] at hcell
      have HX := Aside0.mk hx
      by_cases h32 : x = 32
      · have HBK : Aside0 (blk (rd l (k : Int)) = true) := ⟨by rw [← HX.out, h32]; rfl⟩
        clear hx hk HX
        subst h32
        by_cases hst : 0 ≤ st
        · obtain ⟨a, rfl⟩ := Int.eq_ofNat_of_zero_le hst
          have hak : a < k := by have := HT.out.2.1; omega
          have r1 : decide ((0 : Int) ≤ (a : Int)) = true := decide_eq_true hst
          have r2 := eq_true hst
          have r3 := eq_true (show a ≤ k by omega)
          have r4 := eq_true (show (a : Int) ≤ (k : Int) by omega)
          have r5 := eq_false (show ¬ c = a by have := HP.out; have := HK.out; omega)
          clear hst hak
          go_wp2_with (((with_reducible refine gate_builtin (b := .append) (xs := #[.tmp 29, .tmp 34]) rfl ?_); at_builtin; refine AnyRow.append (w0 := w) rfl (.tmp 29) (.tmp 34) 50 22 (.slice none 0 0) 1 24 rfl Tryd.underlying50 sl_info rfl (by decide) u6 out.length (out.map (sv ad c)) [.slice (some (ad.add a)) (k - a) (c - a)] rfl rfl rfl ?h1 ?h2 ?h3 ?h4 ?h5 ?_; (case h1 => intro u hu; rw [List.mem_singleton.1 hu]; rfl); (case h2 => have := HOL.out; simp only [maxLen]; omega); (case h3 => have := HOL.out; omega); (case h4 => exact HR.out); (case h5 => exact HB.out); intro vn_ w_ ho_ hb_; have n1_ := Aside0.mk ho_; have n2_ := Aside0.mk hb_; clear HR HB ho_ hb_; skip))
          go_roundw
          case rel => exact ⟨out ++ [(a, k)], -1, k + 1, rfl, by rw [HM.out], ⟨PubAt.cut HT.out HK.out HBK.out⟩, ⟨by have := n1_.out; simpa [sv] using this⟩, n2_⟩
          case measure => rw [HM.out]; exact Road.leftOf_lt HK.out
        · have r1 : decide ((0 : Int) ≤ st) = false := decide_eq_false hst
          have HST := Aside0.mk (show st < 0 by omega)
          clear hst
          go_wp2
          go_roundw
          case rel => exact ⟨out, st, k + 1, rfl, by rw [HM.out], ⟨PubAt.gap HT.out HST.out HK.out HBK.out⟩, HR, HB⟩
          case measure => rw [HM.out]; exact Road.leftOf_lt HK.out
      · by_cases h9 : x = 9
        · have HBK : Aside0 (blk (rd l (k : Int)) = true) := ⟨by rw [← HX.out, h9]; rfl⟩
          clear hx hk HX h32
          subst h9
          by_cases hst : 0 ≤ st
          · obtain ⟨a, rfl⟩ := Int.eq_ofNat_of_zero_le hst
            have hak : a < k := by have := HT.out.2.1; omega
            have r1 : decide ((0 : Int) ≤ (a : Int)) = true := decide_eq_true hst
            have r2 := eq_true hst
            have r3 := eq_true (show a ≤ k by omega)
            have r4 := eq_true (show (a : Int) ≤ (k : Int) by omega)
            have r5 := eq_false (show ¬ c = a by have := HP.out; have := HK.out; omega)
            clear hst hak
            go_wp2_with (((with_reducible refine gate_builtin (b := .append) (xs := #[.tmp 29, .tmp 34]) rfl ?_); at_builtin; refine AnyRow.append (w0 := w) rfl (.tmp 29) (.tmp 34) 50 22 (.slice none 0 0) 1 24 rfl Tryd.underlying50 sl_info rfl (by decide) u6 out.length (out.map (sv ad c)) [.slice (some (ad.add a)) (k - a) (c - a)] rfl rfl rfl ?h1 ?h2 ?h3 ?h4 ?h5 ?_; (case h1 => intro u hu; rw [List.mem_singleton.1 hu]; rfl); (case h2 => have := HOL.out; simp only [maxLen]; omega); (case h3 => have := HOL.out; omega); (case h4 => exact HR.out); (case h5 => exact HB.out); intro vn_ w_ ho_ hb_; have n1_ := Aside0.mk ho_; have n2_ := Aside0.mk hb_; clear HR HB ho_ hb_; skip))
            go_roundw
            case rel => exact ⟨out ++ [(a, k)], -1, k + 1, rfl, by rw [HM.out], ⟨PubAt.cut HT.out HK.out HBK.out⟩, ⟨by have := n1_.out; simpa [sv] using this⟩, n2_⟩
            case measure => rw [HM.out]; exact Road.leftOf_lt HK.out
          · have r1 : decide ((0 : Int) ≤ st) = false := decide_eq_false hst
            have HST := Aside0.mk (show st < 0 by omega)
            clear hst
            go_wp2
            go_roundw
            case rel => exact ⟨out, st, k + 1, rfl, by rw [HM.out], ⟨PubAt.gap HT.out HST.out HK.out HBK.out⟩, HR, HB⟩
            case measure => rw [HM.out]; exact Road.leftOf_lt HK.out
        · have HBK : Aside0 (blk (rd l (k : Int)) = false) := ⟨by rw [← HX.out]; simp [blk, h32, h9]⟩
          have s1 : (x == 32) = false := beq_eq_false_iff_ne.2 h32
          have s2 : (x == 9) = false := beq_eq_false_iff_ne.2 h9
          clear hx hk HX h32 h9
          by_cases hst : 0 ≤ st
          · obtain ⟨a, rfl⟩ := Int.eq_ofNat_of_zero_le hst
            have r1 : decide ((a : Int) < 0) = false := decide_eq_false (by omega)
            clear hst
            go_wp2
            go_roundw
            case rel => exact ⟨out, (a : Int), k + 1, rfl, by rw [HM.out], ⟨PubAt.on HT.out HK.out HBK.out⟩, HR, HB⟩
            case measure => rw [HM.out]; exact Road.leftOf_lt HK.out
          · have r1 : decide (st < 0) = true := decide_eq_true (by omega)
            have HST := Aside0.mk (show st < 0 by omega)
            clear hst
            go_wp2
            go_roundw
            case rel => exact ⟨out, (k : Int), k + 1, rfl, by rw [HM.out], ⟨PubAt.begin HT.out HST.out HK.out HBK.out⟩, HR, HB⟩
            case measure => rw [HM.out]; exact Road.leftOf_lt HK.out
    ·
      have q1 : decide ((k : Int) < (l.length : Int)) = false := decide_eq_false (by omega)
      have q2 : decide (k < l.length) = false := decide_eq_false hk
      have HNK := Aside0.mk hk
      obtain ⟨ws, hws⟩ : ∃ ws, ws = spans l 0 (-1) := ⟨_, rfl⟩
      have hin := spans_in l
      rw [← hws] at hin ⊢
      have HWS := Aside0.mk hws
      have HIN := Aside0.mk hin
      have HLD := Aside0.mk ld_mpay
      clear hkl hol hws hin
      have hst' : (∃ a : Nat, st = (a : Int)) ∨ st < 0 := by rcases Int.lt_or_le st 0 with h | h; exact .inr h; exact .inl ⟨st.toNat, by omega⟩
      rcases pub_cases ws l mp with h | h | h | h | h | h | h | h | h
      · -- 2 words: bad
        obtain ⟨s, z, rfl, hR, hq⟩ := h
        have HPW := Aside0.mk hR
        have hz := HIN.out z (by simp)
        have hzl : (seg l z).length = z.2 - z.1 := seg_len hz
        have hkp := ps_at ad c l z
        rw [hzl] at hkp
        obtain ⟨n, hn⟩ : ∃ n, n = psz (seg l z) := ⟨_, rfl⟩
        rw [← hn] at hkp hq
        have HN := Aside0.mk hn
        have HKP := Aside0.mk hkp
        have HZL := Aside0.mk hzl
        have HZ := Aside0.mk (show z.1 + (z.2 - z.1) ≤ l.length by omega)
        have HNEZ := Aside0.mk (show (ad.add z.1).block ≠ cb by rw [add_block]; have := HAB.out; omega)
        have b2 := beq_lits2
        have t1 : decide (n < 0) = true := decide_eq_true hq
        clear hz hzl hkp hn hq hR
        rcases hst' with ⟨a, rfl⟩ | hst
        · have hak : a < l.length := by have := HT.out.2.1; have := HT.out.1; omega
          have r1 : decide ((0 : Int) ≤ (a : Int)) = true := decide_eq_true (by omega)
          have r2 := eq_true (show (0 : Int) ≤ (a : Int) by omega)
          have r3 := eq_true (show a ≤ l.length by omega)
          have r4 := eq_true (show (a : Int) ≤ (l.length : Int) by omega)
          have r5 := eq_false (show ¬ c = a by have := HP.out; omega)
          have r6 := eq_true (show l.length ≤ c from HP.out)
          have HW1 := Aside0.mk ((PubAt.last HT.out hk).trans HWS.out.symm)
          clear hak hk
          have hld := HLD.out cb mp
          go_wp2_with (first | ((with_reducible refine gate_builtin (b := .append) (xs := #[.tmp 39, .tmp 43]) rfl ?_); at_builtin; refine AnyRow.append (w0 := w) rfl (.tmp 39) (.tmp 43) 50 22 (.slice none 0 0) 1 24 rfl Tryd.underlying50 sl_info rfl (by decide) u6 out.length (out.map (sv ad c)) [.slice (some (ad.add a)) (l.length - a) (c - a)] rfl rfl rfl ?h1 ?h2 ?h3 ?h4 ?h5 ?_; (case h1 => intro u hu; rw [List.mem_singleton.1 hu]; rfl); (case h2 => have := HOL.out; simp only [maxLen]; omega); (case h3 => have := HOL.out; omega); (case h4 => exact HR.out); (case h5 => exact HB.out); intro vn_ w_ ho_ hb_; have n1_ := Aside0.mk ho_; have n2_ := Aside0.mk hb_; clear HR HB ho_ hb_; have HB := n2_; have HR := Aside0.mk (show AnyRow _ w.heap.size 1 vn_ [s, z].length ([s, z].map (sv ad c)) by rw [← HW1.out]; have := n1_.out; simpa [sv] using this); clear n1_ n2_; obtain ⟨A6, c6, e6, hc6, hf6⟩ := HR.out.form; subst e6; obtain ⟨g6, eA, hgb, hgs, hgc⟩ := hf6 (by simp); subst eA; have hWcb := (HB.out.block cb (by have := HSZ.out; omega)).trans HCB.out; have HW := Aside0.mk hWcb; have f1 : World.cell? _ ⟨cb, 1, none⟩ = some (.int .i32 mp) := (cell_of_heap hWcb).trans rfl; have f3 : World.cell? _ ⟨cb, 3, none⟩ = some (.slice none 0 0) := (cell_of_heap hWcb).trans rfl; have f4 : World.cell? _ ⟨cb, 4, none⟩ = some (.slice none 0 0) := (cell_of_heap hWcb).trans rfl; have f5 : World.cell? _ ⟨cb, 5, none⟩ = some (.slice none 0 0) := (cell_of_heap hWcb).trans rfl; have f6 : World.cell? _ ⟨cb, 6, none⟩ = some (.slice none 0 0) := (cell_of_heap hWcb).trans rfl; have f8 : World.cell? _ ⟨cb, 8, none⟩ = some (.int .i64 0) := (cell_of_heap hWcb).trans rfl; have y3 : World.frozen? _ ⟨cb, 3, none⟩ = false := frozen_of_heap (i := 3) hWcb; have y4 : World.frozen? _ ⟨cb, 4, none⟩ = false := frozen_of_heap (i := 4) hWcb; have y5 : World.frozen? _ ⟨cb, 5, none⟩ = false := frozen_of_heap (i := 5) hWcb; have y6 : World.frozen? _ ⟨cb, 6, none⟩ = false := frozen_of_heap (i := 6) hWcb; have y8 : World.frozen? _ ⟨cb, 8, none⟩ = false := frozen_of_heap (i := 8) hWcb; have c0 : World.cell? _ ⟨g6, 0, none⟩ = some (.slice (some (ad.add s.1)) (s.2 - s.1) (c - s.1)) := hgc 0 _ rfl; have c1 : World.cell? _ ⟨g6, 1, none⟩ = some (.slice (some (ad.add z.1)) (z.2 - z.1) (c - z.1)) := hgc 1 _ rfl; have ne1 := eq_false (show ¬ cb = g6 by have := HSZ.out; omega); have ne2 := eq_false (show ¬ g6 = cb by have := HSZ.out; omega); have ne3 := eq_false (show ¬ cb = 0 by have := H0.out; omega); have ne4 := eq_false (show ¬ 0 = cb by have := H0.out; omega); have gE := pw_cell_below HB.out HE.out; have HCZ := Aside0.mk (cut_C' (Kd.C_below HC.out HB.out) HZ.out HZL.out); have HB6 := Aside0.mk HB.out.size; clear hWcb hgb hgs hgc hf6 hc6) | ((with_reducible refine gate_callee (f := 22) rfl ?_); refine goesL_ (some 70) rfl rfl Tryd.func22 (by kernel_rfl) rfl #[.slice (some (ad.add z.1)) (z.2 - z.1) (c - z.1)] rfl (by (try simp only [List.map_toArray, List.map_cons, List.map_nil]); first | done | rfl) ?_; refine (HKP.out _ ?hC ?hc2).mono ?_; (case hC => repeat (first | exact HCZ.out | (with_reducible refine C_setCell2 ?_ HNEZ.out _ _))); (case hc2 => have := HP.out; have := HZ.out; omega); rintro e w5 ⟨rfl, hd⟩; refine ⟨_, rfl, ?_⟩; obtain ⟨⟨nd, rfl⟩⟩ := hd) | ((with_reducible refine gate_callee (f := 23) rfl ?_); refine goesL_ (some 118) rfl rfl Tryd.func23 (by kernel_rfl) rfl #[.string _] rfl (by (try simp only [List.map_toArray, List.map_cons, List.map_nil]); first | done | rfl) ?_; refine (errors_New.walk _ _).mono ?_; rintro e w5 ⟨rfl, rfl⟩; refine ⟨_, rfl, ?_⟩))
          go_ret
          rw [← HWS.out, HPW.out]
          exact PPost.of (alloc_same_heap _ (setCell_same_heap _ _ (setCell_same_heap _ _ (drewN_same_heap _ (setCell_same_heap _ _ (setCell_same_heap _ _ (setCell_same_heap _ _ HW.out))))))) (Below.alloc (Below.setCell (Below.setCell (pw_below_drewN (Below.setCell (Below.setCell (Below.setCell (below_mono HB.out HSZ.out) (Nat.le_refl _) _) (Nat.le_refl _) _) (Nat.le_refl _) _) _) (Nat.le_refl _) _) (Nat.le_refl _) _) (Nat.le_of_lt (lt_size (setCell_same_heap _ _ (setCell_same_heap _ _ (drewN_same_heap _ (setCell_same_heap _ _ (setCell_same_heap _ _ (setCell_same_heap _ _ HW.out)))))))) _) rfl rfl rfl ⟨_, _, rfl, lt_size HW.out, new_at (by (try simp only [setCell_size, drewN_size]))⟩
        · have r1 : decide ((0 : Int) ≤ st) = false := decide_eq_false (by omega)
          obtain rfl := (PubAt.done HT.out hst hk).trans HWS.out.symm
          clear hst hk
          (obtain ⟨A6, c6, e6, hc6, hf6⟩ := HR.out.form; subst e6; obtain ⟨g6, eA, hgb, hgs, hgc⟩ := hf6 (by simp); subst eA; have hWcb := (HB.out.block cb (by have := HSZ.out; omega)).trans HCB.out; have HW := Aside0.mk hWcb; have f1 : World.cell? _ ⟨cb, 1, none⟩ = some (.int .i32 mp) := (cell_of_heap hWcb).trans rfl; have f3 : World.cell? _ ⟨cb, 3, none⟩ = some (.slice none 0 0) := (cell_of_heap hWcb).trans rfl; have f4 : World.cell? _ ⟨cb, 4, none⟩ = some (.slice none 0 0) := (cell_of_heap hWcb).trans rfl; have f5 : World.cell? _ ⟨cb, 5, none⟩ = some (.slice none 0 0) := (cell_of_heap hWcb).trans rfl; have f6 : World.cell? _ ⟨cb, 6, none⟩ = some (.slice none 0 0) := (cell_of_heap hWcb).trans rfl; have f8 : World.cell? _ ⟨cb, 8, none⟩ = some (.int .i64 0) := (cell_of_heap hWcb).trans rfl; have y3 : World.frozen? _ ⟨cb, 3, none⟩ = false := frozen_of_heap (i := 3) hWcb; have y4 : World.frozen? _ ⟨cb, 4, none⟩ = false := frozen_of_heap (i := 4) hWcb; have y5 : World.frozen? _ ⟨cb, 5, none⟩ = false := frozen_of_heap (i := 5) hWcb; have y6 : World.frozen? _ ⟨cb, 6, none⟩ = false := frozen_of_heap (i := 6) hWcb; have y8 : World.frozen? _ ⟨cb, 8, none⟩ = false := frozen_of_heap (i := 8) hWcb; have c0 : World.cell? _ ⟨g6, 0, none⟩ = some (.slice (some (ad.add s.1)) (s.2 - s.1) (c - s.1)) := hgc 0 _ rfl; have c1 : World.cell? _ ⟨g6, 1, none⟩ = some (.slice (some (ad.add z.1)) (z.2 - z.1) (c - z.1)) := hgc 1 _ rfl; have ne1 := eq_false (show ¬ cb = g6 by have := HSZ.out; omega); have ne2 := eq_false (show ¬ g6 = cb by have := HSZ.out; omega); have ne3 := eq_false (show ¬ cb = 0 by have := H0.out; omega); have ne4 := eq_false (show ¬ 0 = cb by have := H0.out; omega); have gE := pw_cell_below HB.out HE.out; have HCZ := Aside0.mk (cut_C' (Kd.C_below HC.out HB.out) HZ.out HZL.out); have HB6 := Aside0.mk HB.out.size; clear hWcb hgb hgs hgc hf6 hc6)
          have hld := HLD.out cb mp
          go_wp2_with (first | ((with_reducible refine gate_callee (f := 22) rfl ?_); refine goesL_ (some 70) rfl rfl Tryd.func22 (by kernel_rfl) rfl #[.slice (some (ad.add z.1)) (z.2 - z.1) (c - z.1)] rfl (by (try simp only [List.map_toArray, List.map_cons, List.map_nil]); first | done | rfl) ?_; refine (HKP.out _ ?hC ?hc2).mono ?_; (case hC => repeat (first | exact HCZ.out | (with_reducible refine C_setCell2 ?_ HNEZ.out _ _))); (case hc2 => have := HP.out; have := HZ.out; omega); rintro e w5 ⟨rfl, hd⟩; refine ⟨_, rfl, ?_⟩; obtain ⟨⟨nd, rfl⟩⟩ := hd) | ((with_reducible refine gate_callee (f := 23) rfl ?_); refine goesL_ (some 118) rfl rfl Tryd.func23 (by kernel_rfl) rfl #[.string _] rfl (by (try simp only [List.map_toArray, List.map_cons, List.map_nil]); first | done | rfl) ?_; refine (errors_New.walk _ _).mono ?_; rintro e w5 ⟨rfl, rfl⟩; refine ⟨_, rfl, ?_⟩) | fail)
          go_ret
          rw [← HWS.out, HPW.out]
          exact PPost.of (alloc_same_heap _ (setCell_same_heap _ _ (setCell_same_heap _ _ (drewN_same_heap _ (setCell_same_heap _ _ (setCell_same_heap _ _ (setCell_same_heap _ _ HW.out))))))) (Below.alloc (Below.setCell (Below.setCell (pw_below_drewN (Below.setCell (Below.setCell (Below.setCell (below_mono HB.out HSZ.out) (Nat.le_refl _) _) (Nat.le_refl _) _) (Nat.le_refl _) _) _) (Nat.le_refl _) _) (Nat.le_refl _) _) (Nat.le_of_lt (lt_size (setCell_same_heap _ _ (setCell_same_heap _ _ (drewN_same_heap _ (setCell_same_heap _ _ (setCell_same_heap _ _ (setCell_same_heap _ _ HW.out)))))))) _) rfl rfl rfl ⟨_, _, rfl, lt_size HW.out, new_at (by (try simp only [setCell_size, drewN_size]))⟩
      · -- 2 words: big
        obtain ⟨s, z, rfl, hR, hq⟩ := h
        have HPW := Aside0.mk hR
        have hz := HIN.out z (by simp)
        have hzl : (seg l z).length = z.2 - z.1 := seg_len hz
        have hkp := ps_at ad c l z
        rw [hzl] at hkp
        obtain ⟨n, hn⟩ : ∃ n, n = psz (seg l z) := ⟨_, rfl⟩
        rw [← hn] at hkp hq
        have HN := Aside0.mk hn
        have HKP := Aside0.mk hkp
        have HZL := Aside0.mk hzl
        have HZ := Aside0.mk (show z.1 + (z.2 - z.1) ≤ l.length by omega)
        have HNEZ := Aside0.mk (show (ad.add z.1).block ≠ cb by rw [add_block]; have := HAB.out; omega)
        have b2 := beq_lits2
        have t1 : decide (n < 0) = false := decide_eq_false hq.1
        have t2 : (mp != -1) = true := bne_iff_ne.2 hq.2.1
        have t3 : decide (wrap64 mp < n) = true := by rw [HMP.out]; exact decide_eq_true hq.2.2
        clear hz hzl hkp hn hq hR
        rcases hst' with ⟨a, rfl⟩ | hst
        · have hak : a < l.length := by have := HT.out.2.1; have := HT.out.1; omega
          have r1 : decide ((0 : Int) ≤ (a : Int)) = true := decide_eq_true (by omega)
          have r2 := eq_true (show (0 : Int) ≤ (a : Int) by omega)
          have r3 := eq_true (show a ≤ l.length by omega)
          have r4 := eq_true (show (a : Int) ≤ (l.length : Int) by omega)
          have r5 := eq_false (show ¬ c = a by have := HP.out; omega)
          have r6 := eq_true (show l.length ≤ c from HP.out)
          have HW1 := Aside0.mk ((PubAt.last HT.out hk).trans HWS.out.symm)
          clear hak hk
          have hld := HLD.out cb mp
          go_wp2_with (first | ((with_reducible refine gate_builtin (b := .append) (xs := #[.tmp 39, .tmp 43]) rfl ?_); at_builtin; refine AnyRow.append (w0 := w) rfl (.tmp 39) (.tmp 43) 50 22 (.slice none 0 0) 1 24 rfl Tryd.underlying50 sl_info rfl (by decide) u6 out.length (out.map (sv ad c)) [.slice (some (ad.add a)) (l.length - a) (c - a)] rfl rfl rfl ?h1 ?h2 ?h3 ?h4 ?h5 ?_; (case h1 => intro u hu; rw [List.mem_singleton.1 hu]; rfl); (case h2 => have := HOL.out; simp only [maxLen]; omega); (case h3 => have := HOL.out; omega); (case h4 => exact HR.out); (case h5 => exact HB.out); intro vn_ w_ ho_ hb_; have n1_ := Aside0.mk ho_; have n2_ := Aside0.mk hb_; clear HR HB ho_ hb_; have HB := n2_; have HR := Aside0.mk (show AnyRow _ w.heap.size 1 vn_ [s, z].length ([s, z].map (sv ad c)) by rw [← HW1.out]; have := n1_.out; simpa [sv] using this); clear n1_ n2_; obtain ⟨A6, c6, e6, hc6, hf6⟩ := HR.out.form; subst e6; obtain ⟨g6, eA, hgb, hgs, hgc⟩ := hf6 (by simp); subst eA; have hWcb := (HB.out.block cb (by have := HSZ.out; omega)).trans HCB.out; have HW := Aside0.mk hWcb; have f1 : World.cell? _ ⟨cb, 1, none⟩ = some (.int .i32 mp) := (cell_of_heap hWcb).trans rfl; have f3 : World.cell? _ ⟨cb, 3, none⟩ = some (.slice none 0 0) := (cell_of_heap hWcb).trans rfl; have f4 : World.cell? _ ⟨cb, 4, none⟩ = some (.slice none 0 0) := (cell_of_heap hWcb).trans rfl; have f5 : World.cell? _ ⟨cb, 5, none⟩ = some (.slice none 0 0) := (cell_of_heap hWcb).trans rfl; have f6 : World.cell? _ ⟨cb, 6, none⟩ = some (.slice none 0 0) := (cell_of_heap hWcb).trans rfl; have f8 : World.cell? _ ⟨cb, 8, none⟩ = some (.int .i64 0) := (cell_of_heap hWcb).trans rfl; have y3 : World.frozen? _ ⟨cb, 3, none⟩ = false := frozen_of_heap (i := 3) hWcb; have y4 : World.frozen? _ ⟨cb, 4, none⟩ = false := frozen_of_heap (i := 4) hWcb; have y5 : World.frozen? _ ⟨cb, 5, none⟩ = false := frozen_of_heap (i := 5) hWcb; have y6 : World.frozen? _ ⟨cb, 6, none⟩ = false := frozen_of_heap (i := 6) hWcb; have y8 : World.frozen? _ ⟨cb, 8, none⟩ = false := frozen_of_heap (i := 8) hWcb; have c0 : World.cell? _ ⟨g6, 0, none⟩ = some (.slice (some (ad.add s.1)) (s.2 - s.1) (c - s.1)) := hgc 0 _ rfl; have c1 : World.cell? _ ⟨g6, 1, none⟩ = some (.slice (some (ad.add z.1)) (z.2 - z.1) (c - z.1)) := hgc 1 _ rfl; have ne1 := eq_false (show ¬ cb = g6 by have := HSZ.out; omega); have ne2 := eq_false (show ¬ g6 = cb by have := HSZ.out; omega); have ne3 := eq_false (show ¬ cb = 0 by have := H0.out; omega); have ne4 := eq_false (show ¬ 0 = cb by have := H0.out; omega); have gE := pw_cell_below HB.out HE.out; have HCZ := Aside0.mk (cut_C' (Kd.C_below HC.out HB.out) HZ.out HZL.out); have HB6 := Aside0.mk HB.out.size; clear hWcb hgb hgs hgc hf6 hc6) | ((with_reducible refine gate_callee (f := 22) rfl ?_); refine goesL_ (some 70) rfl rfl Tryd.func22 (by kernel_rfl) rfl #[.slice (some (ad.add z.1)) (z.2 - z.1) (c - z.1)] rfl (by (try simp only [List.map_toArray, List.map_cons, List.map_nil]); first | done | rfl) ?_; refine (HKP.out _ ?hC ?hc2).mono ?_; (case hC => repeat (first | exact HCZ.out | (with_reducible refine C_setCell2 ?_ HNEZ.out _ _))); (case hc2 => have := HP.out; have := HZ.out; omega); rintro e w5 ⟨rfl, hd⟩; refine ⟨_, rfl, ?_⟩; obtain ⟨⟨nd, rfl⟩⟩ := hd))
          go_ret
          rw [← HWS.out, HPW.out]
          exact PPost.of (setCell_same_heap _ _ (setCell_same_heap _ _ (drewN_same_heap _ (setCell_same_heap _ _ (setCell_same_heap _ _ (setCell_same_heap _ _ HW.out)))))) (Below.setCell (Below.setCell (pw_below_drewN (Below.setCell (Below.setCell (Below.setCell (below_mono HB.out HSZ.out) (Nat.le_refl _) _) (Nat.le_refl _) _) (Nat.le_refl _) _) _) (Nat.le_refl _) _) (Nat.le_refl _) _) rfl rfl rfl rfl
        · have r1 : decide ((0 : Int) ≤ st) = false := decide_eq_false (by omega)
          obtain rfl := (PubAt.done HT.out hst hk).trans HWS.out.symm
          clear hst hk
          (obtain ⟨A6, c6, e6, hc6, hf6⟩ := HR.out.form; subst e6; obtain ⟨g6, eA, hgb, hgs, hgc⟩ := hf6 (by simp); subst eA; have hWcb := (HB.out.block cb (by have := HSZ.out; omega)).trans HCB.out; have HW := Aside0.mk hWcb; have f1 : World.cell? _ ⟨cb, 1, none⟩ = some (.int .i32 mp) := (cell_of_heap hWcb).trans rfl; have f3 : World.cell? _ ⟨cb, 3, none⟩ = some (.slice none 0 0) := (cell_of_heap hWcb).trans rfl; have f4 : World.cell? _ ⟨cb, 4, none⟩ = some (.slice none 0 0) := (cell_of_heap hWcb).trans rfl; have f5 : World.cell? _ ⟨cb, 5, none⟩ = some (.slice none 0 0) := (cell_of_heap hWcb).trans rfl; have f6 : World.cell? _ ⟨cb, 6, none⟩ = some (.slice none 0 0) := (cell_of_heap hWcb).trans rfl; have f8 : World.cell? _ ⟨cb, 8, none⟩ = some (.int .i64 0) := (cell_of_heap hWcb).trans rfl; have y3 : World.frozen? _ ⟨cb, 3, none⟩ = false := frozen_of_heap (i := 3) hWcb; have y4 : World.frozen? _ ⟨cb, 4, none⟩ = false := frozen_of_heap (i := 4) hWcb; have y5 : World.frozen? _ ⟨cb, 5, none⟩ = false := frozen_of_heap (i := 5) hWcb; have y6 : World.frozen? _ ⟨cb, 6, none⟩ = false := frozen_of_heap (i := 6) hWcb; have y8 : World.frozen? _ ⟨cb, 8, none⟩ = false := frozen_of_heap (i := 8) hWcb; have c0 : World.cell? _ ⟨g6, 0, none⟩ = some (.slice (some (ad.add s.1)) (s.2 - s.1) (c - s.1)) := hgc 0 _ rfl; have c1 : World.cell? _ ⟨g6, 1, none⟩ = some (.slice (some (ad.add z.1)) (z.2 - z.1) (c - z.1)) := hgc 1 _ rfl; have ne1 := eq_false (show ¬ cb = g6 by have := HSZ.out; omega); have ne2 := eq_false (show ¬ g6 = cb by have := HSZ.out; omega); have ne3 := eq_false (show ¬ cb = 0 by have := H0.out; omega); have ne4 := eq_false (show ¬ 0 = cb by have := H0.out; omega); have gE := pw_cell_below HB.out HE.out; have HCZ := Aside0.mk (cut_C' (Kd.C_below HC.out HB.out) HZ.out HZL.out); have HB6 := Aside0.mk HB.out.size; clear hWcb hgb hgs hgc hf6 hc6)
          have hld := HLD.out cb mp
          go_wp2_with (first | ((with_reducible refine gate_callee (f := 22) rfl ?_); refine goesL_ (some 70) rfl rfl Tryd.func22 (by kernel_rfl) rfl #[.slice (some (ad.add z.1)) (z.2 - z.1) (c - z.1)] rfl (by (try simp only [List.map_toArray, List.map_cons, List.map_nil]); first | done | rfl) ?_; refine (HKP.out _ ?hC ?hc2).mono ?_; (case hC => repeat (first | exact HCZ.out | (with_reducible refine C_setCell2 ?_ HNEZ.out _ _))); (case hc2 => have := HP.out; have := HZ.out; omega); rintro e w5 ⟨rfl, hd⟩; refine ⟨_, rfl, ?_⟩; obtain ⟨⟨nd, rfl⟩⟩ := hd) | fail)
          go_ret
          rw [← HWS.out, HPW.out]
          exact PPost.of (setCell_same_heap _ _ (setCell_same_heap _ _ (drewN_same_heap _ (setCell_same_heap _ _ (setCell_same_heap _ _ (setCell_same_heap _ _ HW.out)))))) (Below.setCell (Below.setCell (pw_below_drewN (Below.setCell (Below.setCell (Below.setCell (below_mono HB.out HSZ.out) (Nat.le_refl _) _) (Nat.le_refl _) _) (Nat.le_refl _) _) _) (Nat.le_refl _) _) (Nat.le_refl _) _) rfl rfl rfl rfl
      · -- 2 words: ok1
        obtain ⟨s, z, rfl, hR, hq⟩ := h
        have HPW := Aside0.mk hR
        have hz := HIN.out z (by simp)
        have hzl : (seg l z).length = z.2 - z.1 := seg_len hz
        have hkp := ps_at ad c l z
        rw [hzl] at hkp
        obtain ⟨n, hn⟩ : ∃ n, n = psz (seg l z) := ⟨_, rfl⟩
        rw [← hn] at hkp hq
        have HN := Aside0.mk hn
        have HKP := Aside0.mk hkp
        have HZL := Aside0.mk hzl
        have HZ := Aside0.mk (show z.1 + (z.2 - z.1) ≤ l.length by omega)
        have HNEZ := Aside0.mk (show (ad.add z.1).block ≠ cb by rw [add_block]; have := HAB.out; omega)
        have b2 := beq_lits2
        have t1 : decide (n < 0) = false := decide_eq_false hq.1
        have t2 : (mp != -1) = false := by rw [hq.2]; rfl
        clear hz hzl hkp hn hq hR
        rcases hst' with ⟨a, rfl⟩ | hst
        · have hak : a < l.length := by have := HT.out.2.1; have := HT.out.1; omega
          have r1 : decide ((0 : Int) ≤ (a : Int)) = true := decide_eq_true (by omega)
          have r2 := eq_true (show (0 : Int) ≤ (a : Int) by omega)
          have r3 := eq_true (show a ≤ l.length by omega)
          have r4 := eq_true (show (a : Int) ≤ (l.length : Int) by omega)
          have r5 := eq_false (show ¬ c = a by have := HP.out; omega)
          have r6 := eq_true (show l.length ≤ c from HP.out)
          have HW1 := Aside0.mk ((PubAt.last HT.out hk).trans HWS.out.symm)
          clear hak hk
          have hld := HLD.out cb mp
          go_wp2_with (first | ((with_reducible refine gate_builtin (b := .append) (xs := #[.tmp 39, .tmp 43]) rfl ?_); at_builtin; refine AnyRow.append (w0 := w) rfl (.tmp 39) (.tmp 43) 50 22 (.slice none 0 0) 1 24 rfl Tryd.underlying50 sl_info rfl (by decide) u6 out.length (out.map (sv ad c)) [.slice (some (ad.add a)) (l.length - a) (c - a)] rfl rfl rfl ?h1 ?h2 ?h3 ?h4 ?h5 ?_; (case h1 => intro u hu; rw [List.mem_singleton.1 hu]; rfl); (case h2 => have := HOL.out; simp only [maxLen]; omega); (case h3 => have := HOL.out; omega); (case h4 => exact HR.out); (case h5 => exact HB.out); intro vn_ w_ ho_ hb_; have n1_ := Aside0.mk ho_; have n2_ := Aside0.mk hb_; clear HR HB ho_ hb_; have HB := n2_; have HR := Aside0.mk (show AnyRow _ w.heap.size 1 vn_ [s, z].length ([s, z].map (sv ad c)) by rw [← HW1.out]; have := n1_.out; simpa [sv] using this); clear n1_ n2_; obtain ⟨A6, c6, e6, hc6, hf6⟩ := HR.out.form; subst e6; obtain ⟨g6, eA, hgb, hgs, hgc⟩ := hf6 (by simp); subst eA; have hWcb := (HB.out.block cb (by have := HSZ.out; omega)).trans HCB.out; have HW := Aside0.mk hWcb; have f1 : World.cell? _ ⟨cb, 1, none⟩ = some (.int .i32 mp) := (cell_of_heap hWcb).trans rfl; have f3 : World.cell? _ ⟨cb, 3, none⟩ = some (.slice none 0 0) := (cell_of_heap hWcb).trans rfl; have f4 : World.cell? _ ⟨cb, 4, none⟩ = some (.slice none 0 0) := (cell_of_heap hWcb).trans rfl; have f5 : World.cell? _ ⟨cb, 5, none⟩ = some (.slice none 0 0) := (cell_of_heap hWcb).trans rfl; have f6 : World.cell? _ ⟨cb, 6, none⟩ = some (.slice none 0 0) := (cell_of_heap hWcb).trans rfl; have f8 : World.cell? _ ⟨cb, 8, none⟩ = some (.int .i64 0) := (cell_of_heap hWcb).trans rfl; have y3 : World.frozen? _ ⟨cb, 3, none⟩ = false := frozen_of_heap (i := 3) hWcb; have y4 : World.frozen? _ ⟨cb, 4, none⟩ = false := frozen_of_heap (i := 4) hWcb; have y5 : World.frozen? _ ⟨cb, 5, none⟩ = false := frozen_of_heap (i := 5) hWcb; have y6 : World.frozen? _ ⟨cb, 6, none⟩ = false := frozen_of_heap (i := 6) hWcb; have y8 : World.frozen? _ ⟨cb, 8, none⟩ = false := frozen_of_heap (i := 8) hWcb; have c0 : World.cell? _ ⟨g6, 0, none⟩ = some (.slice (some (ad.add s.1)) (s.2 - s.1) (c - s.1)) := hgc 0 _ rfl; have c1 : World.cell? _ ⟨g6, 1, none⟩ = some (.slice (some (ad.add z.1)) (z.2 - z.1) (c - z.1)) := hgc 1 _ rfl; have ne1 := eq_false (show ¬ cb = g6 by have := HSZ.out; omega); have ne2 := eq_false (show ¬ g6 = cb by have := HSZ.out; omega); have ne3 := eq_false (show ¬ cb = 0 by have := H0.out; omega); have ne4 := eq_false (show ¬ 0 = cb by have := H0.out; omega); have gE := pw_cell_below HB.out HE.out; have HCZ := Aside0.mk (cut_C' (Kd.C_below HC.out HB.out) HZ.out HZL.out); have HB6 := Aside0.mk HB.out.size; clear hWcb hgb hgs hgc hf6 hc6) | ((with_reducible refine gate_callee (f := 22) rfl ?_); refine goesL_ (some 70) rfl rfl Tryd.func22 (by kernel_rfl) rfl #[.slice (some (ad.add z.1)) (z.2 - z.1) (c - z.1)] rfl (by (try simp only [List.map_toArray, List.map_cons, List.map_nil]); first | done | rfl) ?_; refine (HKP.out _ ?hC ?hc2).mono ?_; (case hC => repeat (first | exact HCZ.out | (with_reducible refine C_setCell2 ?_ HNEZ.out _ _))); (case hc2 => have := HP.out; have := HZ.out; omega); rintro e w5 ⟨rfl, hd⟩; refine ⟨_, rfl, ?_⟩; obtain ⟨⟨nd, rfl⟩⟩ := hd))
          go_ret
          rw [← HWS.out, HPW.out]
          exact PPost.of (setCell_same_heap _ _ (setCell_same_heap _ _ (drewN_same_heap _ (setCell_same_heap _ _ (setCell_same_heap _ _ (setCell_same_heap _ _ HW.out)))))) (Below.setCell (Below.setCell (pw_below_drewN (Below.setCell (Below.setCell (Below.setCell (below_mono HB.out HSZ.out) (Nat.le_refl _) _) (Nat.le_refl _) _) (Nat.le_refl _) _) _) (Nat.le_refl _) _) (Nat.le_refl _) _) rfl rfl rfl ⟨rfl, rfl, rfl, congrArg (fun x => Value.int .i64 x) HN.out⟩
        · have r1 : decide ((0 : Int) ≤ st) = false := decide_eq_false (by omega)
          obtain rfl := (PubAt.done HT.out hst hk).trans HWS.out.symm
          clear hst hk
          (obtain ⟨A6, c6, e6, hc6, hf6⟩ := HR.out.form; subst e6; obtain ⟨g6, eA, hgb, hgs, hgc⟩ := hf6 (by simp); subst eA; have hWcb := (HB.out.block cb (by have := HSZ.out; omega)).trans HCB.out; have HW := Aside0.mk hWcb; have f1 : World.cell? _ ⟨cb, 1, none⟩ = some (.int .i32 mp) := (cell_of_heap hWcb).trans rfl; have f3 : World.cell? _ ⟨cb, 3, none⟩ = some (.slice none 0 0) := (cell_of_heap hWcb).trans rfl; have f4 : World.cell? _ ⟨cb, 4, none⟩ = some (.slice none 0 0) := (cell_of_heap hWcb).trans rfl; have f5 : World.cell? _ ⟨cb, 5, none⟩ = some (.slice none 0 0) := (cell_of_heap hWcb).trans rfl; have f6 : World.cell? _ ⟨cb, 6, none⟩ = some (.slice none 0 0) := (cell_of_heap hWcb).trans rfl; have f8 : World.cell? _ ⟨cb, 8, none⟩ = some (.int .i64 0) := (cell_of_heap hWcb).trans rfl; have y3 : World.frozen? _ ⟨cb, 3, none⟩ = false := frozen_of_heap (i := 3) hWcb; have y4 : World.frozen? _ ⟨cb, 4, none⟩ = false := frozen_of_heap (i := 4) hWcb; have y5 : World.frozen? _ ⟨cb, 5, none⟩ = false := frozen_of_heap (i := 5) hWcb; have y6 : World.frozen? _ ⟨cb, 6, none⟩ = false := frozen_of_heap (i := 6) hWcb; have y8 : World.frozen? _ ⟨cb, 8, none⟩ = false := frozen_of_heap (i := 8) hWcb; have c0 : World.cell? _ ⟨g6, 0, none⟩ = some (.slice (some (ad.add s.1)) (s.2 - s.1) (c - s.1)) := hgc 0 _ rfl; have c1 : World.cell? _ ⟨g6, 1, none⟩ = some (.slice (some (ad.add z.1)) (z.2 - z.1) (c - z.1)) := hgc 1 _ rfl; have ne1 := eq_false (show ¬ cb = g6 by have := HSZ.out; omega); have ne2 := eq_false (show ¬ g6 = cb by have := HSZ.out; omega); have ne3 := eq_false (show ¬ cb = 0 by have := H0.out; omega); have ne4 := eq_false (show ¬ 0 = cb by have := H0.out; omega); have gE := pw_cell_below HB.out HE.out; have HCZ := Aside0.mk (cut_C' (Kd.C_below HC.out HB.out) HZ.out HZL.out); have HB6 := Aside0.mk HB.out.size; clear hWcb hgb hgs hgc hf6 hc6)
          have hld := HLD.out cb mp
          go_wp2_with (first | ((with_reducible refine gate_callee (f := 22) rfl ?_); refine goesL_ (some 70) rfl rfl Tryd.func22 (by kernel_rfl) rfl #[.slice (some (ad.add z.1)) (z.2 - z.1) (c - z.1)] rfl (by (try simp only [List.map_toArray, List.map_cons, List.map_nil]); first | done | rfl) ?_; refine (HKP.out _ ?hC ?hc2).mono ?_; (case hC => repeat (first | exact HCZ.out | (with_reducible refine C_setCell2 ?_ HNEZ.out _ _))); (case hc2 => have := HP.out; have := HZ.out; omega); rintro e w5 ⟨rfl, hd⟩; refine ⟨_, rfl, ?_⟩; obtain ⟨⟨nd, rfl⟩⟩ := hd) | fail)
          go_ret
          rw [← HWS.out, HPW.out]
          exact PPost.of (setCell_same_heap _ _ (setCell_same_heap _ _ (drewN_same_heap _ (setCell_same_heap _ _ (setCell_same_heap _ _ (setCell_same_heap _ _ HW.out)))))) (Below.setCell (Below.setCell (pw_below_drewN (Below.setCell (Below.setCell (Below.setCell (below_mono HB.out HSZ.out) (Nat.le_refl _) _) (Nat.le_refl _) _) (Nat.le_refl _) _) _) (Nat.le_refl _) _) (Nat.le_refl _) _) rfl rfl rfl ⟨rfl, rfl, rfl, congrArg (fun x => Value.int .i64 x) HN.out⟩
      · -- 2 words: ok2
        obtain ⟨s, z, rfl, hR, hq⟩ := h
        have HPW := Aside0.mk hR
        have hz := HIN.out z (by simp)
        have hzl : (seg l z).length = z.2 - z.1 := seg_len hz
        have hkp := ps_at ad c l z
        rw [hzl] at hkp
        obtain ⟨n, hn⟩ : ∃ n, n = psz (seg l z) := ⟨_, rfl⟩
        rw [← hn] at hkp hq
        have HN := Aside0.mk hn
        have HKP := Aside0.mk hkp
        have HZL := Aside0.mk hzl
        have HZ := Aside0.mk (show z.1 + (z.2 - z.1) ≤ l.length by omega)
        have HNEZ := Aside0.mk (show (ad.add z.1).block ≠ cb by rw [add_block]; have := HAB.out; omega)
        have b2 := beq_lits2
        have t1 : decide (n < 0) = false := decide_eq_false hq.1
        have t2 : (mp != -1) = true := bne_iff_ne.2 hq.2.1
        have t3 : decide (wrap64 mp < n) = false := by rw [HMP.out]; exact decide_eq_false hq.2.2
        clear hz hzl hkp hn hq hR
        rcases hst' with ⟨a, rfl⟩ | hst
        · have hak : a < l.length := by have := HT.out.2.1; have := HT.out.1; omega
          have r1 : decide ((0 : Int) ≤ (a : Int)) = true := decide_eq_true (by omega)
          have r2 := eq_true (show (0 : Int) ≤ (a : Int) by omega)
          have r3 := eq_true (show a ≤ l.length by omega)
          have r4 := eq_true (show (a : Int) ≤ (l.length : Int) by omega)
          have r5 := eq_false (show ¬ c = a by have := HP.out; omega)
          have r6 := eq_true (show l.length ≤ c from HP.out)
          have HW1 := Aside0.mk ((PubAt.last HT.out hk).trans HWS.out.symm)
          clear hak hk
          have hld := HLD.out cb mp
          go_wp2_with (first | ((with_reducible refine gate_builtin (b := .append) (xs := #[.tmp 39, .tmp 43]) rfl ?_); at_builtin; refine AnyRow.append (w0 := w) rfl (.tmp 39) (.tmp 43) 50 22 (.slice none 0 0) 1 24 rfl Tryd.underlying50 sl_info rfl (by decide) u6 out.length (out.map (sv ad c)) [.slice (some (ad.add a)) (l.length - a) (c - a)] rfl rfl rfl ?h1 ?h2 ?h3 ?h4 ?h5 ?_; (case h1 => intro u hu; rw [List.mem_singleton.1 hu]; rfl); (case h2 => have := HOL.out; simp only [maxLen]; omega); (case h3 => have := HOL.out; omega); (case h4 => exact HR.out); (case h5 => exact HB.out); intro vn_ w_ ho_ hb_; have n1_ := Aside0.mk ho_; have n2_ := Aside0.mk hb_; clear HR HB ho_ hb_; have HB := n2_; have HR := Aside0.mk (show AnyRow _ w.heap.size 1 vn_ [s, z].length ([s, z].map (sv ad c)) by rw [← HW1.out]; have := n1_.out; simpa [sv] using this); clear n1_ n2_; obtain ⟨A6, c6, e6, hc6, hf6⟩ := HR.out.form; subst e6; obtain ⟨g6, eA, hgb, hgs, hgc⟩ := hf6 (by simp); subst eA; have hWcb := (HB.out.block cb (by have := HSZ.out; omega)).trans HCB.out; have HW := Aside0.mk hWcb; have f1 : World.cell? _ ⟨cb, 1, none⟩ = some (.int .i32 mp) := (cell_of_heap hWcb).trans rfl; have f3 : World.cell? _ ⟨cb, 3, none⟩ = some (.slice none 0 0) := (cell_of_heap hWcb).trans rfl; have f4 : World.cell? _ ⟨cb, 4, none⟩ = some (.slice none 0 0) := (cell_of_heap hWcb).trans rfl; have f5 : World.cell? _ ⟨cb, 5, none⟩ = some (.slice none 0 0) := (cell_of_heap hWcb).trans rfl; have f6 : World.cell? _ ⟨cb, 6, none⟩ = some (.slice none 0 0) := (cell_of_heap hWcb).trans rfl; have f8 : World.cell? _ ⟨cb, 8, none⟩ = some (.int .i64 0) := (cell_of_heap hWcb).trans rfl; have y3 : World.frozen? _ ⟨cb, 3, none⟩ = false := frozen_of_heap (i := 3) hWcb; have y4 : World.frozen? _ ⟨cb, 4, none⟩ = false := frozen_of_heap (i := 4) hWcb; have y5 : World.frozen? _ ⟨cb, 5, none⟩ = false := frozen_of_heap (i := 5) hWcb; have y6 : World.frozen? _ ⟨cb, 6, none⟩ = false := frozen_of_heap (i := 6) hWcb; have y8 : World.frozen? _ ⟨cb, 8, none⟩ = false := frozen_of_heap (i := 8) hWcb; have c0 : World.cell? _ ⟨g6, 0, none⟩ = some (.slice (some (ad.add s.1)) (s.2 - s.1) (c - s.1)) := hgc 0 _ rfl; have c1 : World.cell? _ ⟨g6, 1, none⟩ = some (.slice (some (ad.add z.1)) (z.2 - z.1) (c - z.1)) := hgc 1 _ rfl; have ne1 := eq_false (show ¬ cb = g6 by have := HSZ.out; omega); have ne2 := eq_false (show ¬ g6 = cb by have := HSZ.out; omega); have ne3 := eq_false (show ¬ cb = 0 by have := H0.out; omega); have ne4 := eq_false (show ¬ 0 = cb by have := H0.out; omega); have gE := pw_cell_below HB.out HE.out; have HCZ := Aside0.mk (cut_C' (Kd.C_below HC.out HB.out) HZ.out HZL.out); have HB6 := Aside0.mk HB.out.size; clear hWcb hgb hgs hgc hf6 hc6) | ((with_reducible refine gate_callee (f := 22) rfl ?_); refine goesL_ (some 70) rfl rfl Tryd.func22 (by kernel_rfl) rfl #[.slice (some (ad.add z.1)) (z.2 - z.1) (c - z.1)] rfl (by (try simp only [List.map_toArray, List.map_cons, List.map_nil]); first | done | rfl) ?_; refine (HKP.out _ ?hC ?hc2).mono ?_; (case hC => repeat (first | exact HCZ.out | (with_reducible refine C_setCell2 ?_ HNEZ.out _ _))); (case hc2 => have := HP.out; have := HZ.out; omega); rintro e w5 ⟨rfl, hd⟩; refine ⟨_, rfl, ?_⟩; obtain ⟨⟨nd, rfl⟩⟩ := hd))
          go_ret
          rw [← HWS.out, HPW.out]
          exact PPost.of (setCell_same_heap _ _ (setCell_same_heap _ _ (drewN_same_heap _ (setCell_same_heap _ _ (setCell_same_heap _ _ (setCell_same_heap _ _ HW.out)))))) (Below.setCell (Below.setCell (pw_below_drewN (Below.setCell (Below.setCell (Below.setCell (below_mono HB.out HSZ.out) (Nat.le_refl _) _) (Nat.le_refl _) _) (Nat.le_refl _) _) _) (Nat.le_refl _) _) (Nat.le_refl _) _) rfl rfl rfl ⟨rfl, rfl, rfl, congrArg (fun x => Value.int .i64 x) HN.out⟩
        · have r1 : decide ((0 : Int) ≤ st) = false := decide_eq_false (by omega)
          obtain rfl := (PubAt.done HT.out hst hk).trans HWS.out.symm
          clear hst hk
          (obtain ⟨A6, c6, e6, hc6, hf6⟩ := HR.out.form; subst e6; obtain ⟨g6, eA, hgb, hgs, hgc⟩ := hf6 (by simp); subst eA; have hWcb := (HB.out.block cb (by have := HSZ.out; omega)).trans HCB.out; have HW := Aside0.mk hWcb; have f1 : World.cell? _ ⟨cb, 1, none⟩ = some (.int .i32 mp) := (cell_of_heap hWcb).trans rfl; have f3 : World.cell? _ ⟨cb, 3, none⟩ = some (.slice none 0 0) := (cell_of_heap hWcb).trans rfl; have f4 : World.cell? _ ⟨cb, 4, none⟩ = some (.slice none 0 0) := (cell_of_heap hWcb).trans rfl; have f5 : World.cell? _ ⟨cb, 5, none⟩ = some (.slice none 0 0) := (cell_of_heap hWcb).trans rfl; have f6 : World.cell? _ ⟨cb, 6, none⟩ = some (.slice none 0 0) := (cell_of_heap hWcb).trans rfl; have f8 : World.cell? _ ⟨cb, 8, none⟩ = some (.int .i64 0) := (cell_of_heap hWcb).trans rfl; have y3 : World.frozen? _ ⟨cb, 3, none⟩ = false := frozen_of_heap (i := 3) hWcb; have y4 : World.frozen? _ ⟨cb, 4, none⟩ = false := frozen_of_heap (i := 4) hWcb; have y5 : World.frozen? _ ⟨cb, 5, none⟩ = false := frozen_of_heap (i := 5) hWcb; have y6 : World.frozen? _ ⟨cb, 6, none⟩ = false := frozen_of_heap (i := 6) hWcb; have y8 : World.frozen? _ ⟨cb, 8, none⟩ = false := frozen_of_heap (i := 8) hWcb; have c0 : World.cell? _ ⟨g6, 0, none⟩ = some (.slice (some (ad.add s.1)) (s.2 - s.1) (c - s.1)) := hgc 0 _ rfl; have c1 : World.cell? _ ⟨g6, 1, none⟩ = some (.slice (some (ad.add z.1)) (z.2 - z.1) (c - z.1)) := hgc 1 _ rfl; have ne1 := eq_false (show ¬ cb = g6 by have := HSZ.out; omega); have ne2 := eq_false (show ¬ g6 = cb by have := HSZ.out; omega); have ne3 := eq_false (show ¬ cb = 0 by have := H0.out; omega); have ne4 := eq_false (show ¬ 0 = cb by have := H0.out; omega); have gE := pw_cell_below HB.out HE.out; have HCZ := Aside0.mk (cut_C' (Kd.C_below HC.out HB.out) HZ.out HZL.out); have HB6 := Aside0.mk HB.out.size; clear hWcb hgb hgs hgc hf6 hc6)
          have hld := HLD.out cb mp
          go_wp2_with (first | ((with_reducible refine gate_callee (f := 22) rfl ?_); refine goesL_ (some 70) rfl rfl Tryd.func22 (by kernel_rfl) rfl #[.slice (some (ad.add z.1)) (z.2 - z.1) (c - z.1)] rfl (by (try simp only [List.map_toArray, List.map_cons, List.map_nil]); first | done | rfl) ?_; refine (HKP.out _ ?hC ?hc2).mono ?_; (case hC => repeat (first | exact HCZ.out | (with_reducible refine C_setCell2 ?_ HNEZ.out _ _))); (case hc2 => have := HP.out; have := HZ.out; omega); rintro e w5 ⟨rfl, hd⟩; refine ⟨_, rfl, ?_⟩; obtain ⟨⟨nd, rfl⟩⟩ := hd) | fail)
          go_ret
          rw [← HWS.out, HPW.out]
          exact PPost.of (setCell_same_heap _ _ (setCell_same_heap _ _ (drewN_same_heap _ (setCell_same_heap _ _ (setCell_same_heap _ _ (setCell_same_heap _ _ HW.out)))))) (Below.setCell (Below.setCell (pw_below_drewN (Below.setCell (Below.setCell (Below.setCell (below_mono HB.out HSZ.out) (Nat.le_refl _) _) (Nat.le_refl _) _) (Nat.le_refl _) _) _) (Nat.le_refl _) _) (Nat.le_refl _) _) rfl rfl rfl ⟨rfl, rfl, rfl, congrArg (fun x => Value.int .i64 x) HN.out⟩
      · -- 3 words: bad
        obtain ⟨s, r, z, rfl, hR, hq⟩ := h
        have HPW := Aside0.mk hR
        have hz := HIN.out z (by simp)
        have hzl : (seg l z).length = z.2 - z.1 := seg_len hz
        have hkp := ps_at ad c l z
        rw [hzl] at hkp
        obtain ⟨n, hn⟩ : ∃ n, n = psz (seg l z) := ⟨_, rfl⟩
        rw [← hn] at hkp hq
        have HN := Aside0.mk hn
        have HKP := Aside0.mk hkp
        have HZL := Aside0.mk hzl
        have HZ := Aside0.mk (show z.1 + (z.2 - z.1) ≤ l.length by omega)
        have HNEZ := Aside0.mk (show (ad.add z.1).block ≠ cb by rw [add_block]; have := HAB.out; omega)
        have b2 := beq_lits3
        have t1 : decide (n < 0) = true := decide_eq_true hq
        clear hz hzl hkp hn hq hR
        rcases hst' with ⟨a, rfl⟩ | hst
        · have hak : a < l.length := by have := HT.out.2.1; have := HT.out.1; omega
          have r1 : decide ((0 : Int) ≤ (a : Int)) = true := decide_eq_true (by omega)
          have r2 := eq_true (show (0 : Int) ≤ (a : Int) by omega)
          have r3 := eq_true (show a ≤ l.length by omega)
          have r4 := eq_true (show (a : Int) ≤ (l.length : Int) by omega)
          have r5 := eq_false (show ¬ c = a by have := HP.out; omega)
          have r6 := eq_true (show l.length ≤ c from HP.out)
          have HW1 := Aside0.mk ((PubAt.last HT.out hk).trans HWS.out.symm)
          clear hak hk
          have hld := HLD.out cb mp
          go_wp2_with (first | ((with_reducible refine gate_builtin (b := .append) (xs := #[.tmp 39, .tmp 43]) rfl ?_); at_builtin; refine AnyRow.append (w0 := w) rfl (.tmp 39) (.tmp 43) 50 22 (.slice none 0 0) 1 24 rfl Tryd.underlying50 sl_info rfl (by decide) u6 out.length (out.map (sv ad c)) [.slice (some (ad.add a)) (l.length - a) (c - a)] rfl rfl rfl ?h1 ?h2 ?h3 ?h4 ?h5 ?_; (case h1 => intro u hu; rw [List.mem_singleton.1 hu]; rfl); (case h2 => have := HOL.out; simp only [maxLen]; omega); (case h3 => have := HOL.out; omega); (case h4 => exact HR.out); (case h5 => exact HB.out); intro vn_ w_ ho_ hb_; have n1_ := Aside0.mk ho_; have n2_ := Aside0.mk hb_; clear HR HB ho_ hb_; have HB := n2_; have HR := Aside0.mk (show AnyRow _ w.heap.size 1 vn_ [s, r, z].length ([s, r, z].map (sv ad c)) by rw [← HW1.out]; have := n1_.out; simpa [sv] using this); clear n1_ n2_; obtain ⟨A6, c6, e6, hc6, hf6⟩ := HR.out.form; subst e6; obtain ⟨g6, eA, hgb, hgs, hgc⟩ := hf6 (by simp); subst eA; have hWcb := (HB.out.block cb (by have := HSZ.out; omega)).trans HCB.out; have HW := Aside0.mk hWcb; have f1 : World.cell? _ ⟨cb, 1, none⟩ = some (.int .i32 mp) := (cell_of_heap hWcb).trans rfl; have f3 : World.cell? _ ⟨cb, 3, none⟩ = some (.slice none 0 0) := (cell_of_heap hWcb).trans rfl; have f4 : World.cell? _ ⟨cb, 4, none⟩ = some (.slice none 0 0) := (cell_of_heap hWcb).trans rfl; have f5 : World.cell? _ ⟨cb, 5, none⟩ = some (.slice none 0 0) := (cell_of_heap hWcb).trans rfl; have f6 : World.cell? _ ⟨cb, 6, none⟩ = some (.slice none 0 0) := (cell_of_heap hWcb).trans rfl; have f8 : World.cell? _ ⟨cb, 8, none⟩ = some (.int .i64 0) := (cell_of_heap hWcb).trans rfl; have y3 : World.frozen? _ ⟨cb, 3, none⟩ = false := frozen_of_heap (i := 3) hWcb; have y4 : World.frozen? _ ⟨cb, 4, none⟩ = false := frozen_of_heap (i := 4) hWcb; have y5 : World.frozen? _ ⟨cb, 5, none⟩ = false := frozen_of_heap (i := 5) hWcb; have y6 : World.frozen? _ ⟨cb, 6, none⟩ = false := frozen_of_heap (i := 6) hWcb; have y8 : World.frozen? _ ⟨cb, 8, none⟩ = false := frozen_of_heap (i := 8) hWcb; have c0 : World.cell? _ ⟨g6, 0, none⟩ = some (.slice (some (ad.add s.1)) (s.2 - s.1) (c - s.1)) := hgc 0 _ rfl; have c1 : World.cell? _ ⟨g6, 1, none⟩ = some (.slice (some (ad.add r.1)) (r.2 - r.1) (c - r.1)) := hgc 1 _ rfl; have c2 : World.cell? _ ⟨g6, 2, none⟩ = some (.slice (some (ad.add z.1)) (z.2 - z.1) (c - z.1)) := hgc 2 _ rfl; have ne1 := eq_false (show ¬ cb = g6 by have := HSZ.out; omega); have ne2 := eq_false (show ¬ g6 = cb by have := HSZ.out; omega); have ne3 := eq_false (show ¬ cb = 0 by have := H0.out; omega); have ne4 := eq_false (show ¬ 0 = cb by have := H0.out; omega); have gE := pw_cell_below HB.out HE.out; have HCZ := Aside0.mk (cut_C' (Kd.C_below HC.out HB.out) HZ.out HZL.out); have HB6 := Aside0.mk HB.out.size; clear hWcb hgb hgs hgc hf6 hc6) | ((with_reducible refine gate_callee (f := 22) rfl ?_); refine goesL_ (some 101) rfl rfl Tryd.func22 (by kernel_rfl) rfl #[.slice (some (ad.add z.1)) (z.2 - z.1) (c - z.1)] rfl (by (try simp only [List.map_toArray, List.map_cons, List.map_nil]); first | done | rfl) ?_; refine (HKP.out _ ?hC ?hc2).mono ?_; (case hC => repeat (first | exact HCZ.out | (with_reducible refine C_setCell2 ?_ HNEZ.out _ _))); (case hc2 => have := HP.out; have := HZ.out; omega); rintro e w5 ⟨rfl, hd⟩; refine ⟨_, rfl, ?_⟩; obtain ⟨⟨nd, rfl⟩⟩ := hd) | ((with_reducible refine gate_callee (f := 23) rfl ?_); refine goesL_ (some 118) rfl rfl Tryd.func23 (by kernel_rfl) rfl #[.string _] rfl (by (try simp only [List.map_toArray, List.map_cons, List.map_nil]); first | done | rfl) ?_; refine (errors_New.walk _ _).mono ?_; rintro e w5 ⟨rfl, rfl⟩; refine ⟨_, rfl, ?_⟩))
          go_ret
          rw [← HWS.out, HPW.out]
          exact PPost.of (alloc_same_heap _ (setCell_same_heap _ _ (setCell_same_heap _ _ (drewN_same_heap _ (setCell_same_heap _ _ (setCell_same_heap _ _ (setCell_same_heap _ _ HW.out))))))) (Below.alloc (Below.setCell (Below.setCell (pw_below_drewN (Below.setCell (Below.setCell (Below.setCell (below_mono HB.out HSZ.out) (Nat.le_refl _) _) (Nat.le_refl _) _) (Nat.le_refl _) _) _) (Nat.le_refl _) _) (Nat.le_refl _) _) (Nat.le_of_lt (lt_size (setCell_same_heap _ _ (setCell_same_heap _ _ (drewN_same_heap _ (setCell_same_heap _ _ (setCell_same_heap _ _ (setCell_same_heap _ _ HW.out)))))))) _) rfl rfl rfl ⟨_, _, rfl, lt_size HW.out, new_at (by (try simp only [setCell_size, drewN_size]))⟩
        · have r1 : decide ((0 : Int) ≤ st) = false := decide_eq_false (by omega)
          obtain rfl := (PubAt.done HT.out hst hk).trans HWS.out.symm
          clear hst hk
          (obtain ⟨A6, c6, e6, hc6, hf6⟩ := HR.out.form; subst e6; obtain ⟨g6, eA, hgb, hgs, hgc⟩ := hf6 (by simp); subst eA; have hWcb := (HB.out.block cb (by have := HSZ.out; omega)).trans HCB.out; have HW := Aside0.mk hWcb; have f1 : World.cell? _ ⟨cb, 1, none⟩ = some (.int .i32 mp) := (cell_of_heap hWcb).trans rfl; have f3 : World.cell? _ ⟨cb, 3, none⟩ = some (.slice none 0 0) := (cell_of_heap hWcb).trans rfl; have f4 : World.cell? _ ⟨cb, 4, none⟩ = some (.slice none 0 0) := (cell_of_heap hWcb).trans rfl; have f5 : World.cell? _ ⟨cb, 5, none⟩ = some (.slice none 0 0) := (cell_of_heap hWcb).trans rfl; have f6 : World.cell? _ ⟨cb, 6, none⟩ = some (.slice none 0 0) := (cell_of_heap hWcb).trans rfl; have f8 : World.cell? _ ⟨cb, 8, none⟩ = some (.int .i64 0) := (cell_of_heap hWcb).trans rfl; have y3 : World.frozen? _ ⟨cb, 3, none⟩ = false := frozen_of_heap (i := 3) hWcb; have y4 : World.frozen? _ ⟨cb, 4, none⟩ = false := frozen_of_heap (i := 4) hWcb; have y5 : World.frozen? _ ⟨cb, 5, none⟩ = false := frozen_of_heap (i := 5) hWcb; have y6 : World.frozen? _ ⟨cb, 6, none⟩ = false := frozen_of_heap (i := 6) hWcb; have y8 : World.frozen? _ ⟨cb, 8, none⟩ = false := frozen_of_heap (i := 8) hWcb; have c0 : World.cell? _ ⟨g6, 0, none⟩ = some (.slice (some (ad.add s.1)) (s.2 - s.1) (c - s.1)) := hgc 0 _ rfl; have c1 : World.cell? _ ⟨g6, 1, none⟩ = some (.slice (some (ad.add r.1)) (r.2 - r.1) (c - r.1)) := hgc 1 _ rfl; have c2 : World.cell? _ ⟨g6, 2, none⟩ = some (.slice (some (ad.add z.1)) (z.2 - z.1) (c - z.1)) := hgc 2 _ rfl; have ne1 := eq_false (show ¬ cb = g6 by have := HSZ.out; omega); have ne2 := eq_false (show ¬ g6 = cb by have := HSZ.out; omega); have ne3 := eq_false (show ¬ cb = 0 by have := H0.out; omega); have ne4 := eq_false (show ¬ 0 = cb by have := H0.out; omega); have gE := pw_cell_below HB.out HE.out; have HCZ := Aside0.mk (cut_C' (Kd.C_below HC.out HB.out) HZ.out HZL.out); have HB6 := Aside0.mk HB.out.size; clear hWcb hgb hgs hgc hf6 hc6)
          have hld := HLD.out cb mp
          go_wp2_with (first | ((with_reducible refine gate_callee (f := 22) rfl ?_); refine goesL_ (some 101) rfl rfl Tryd.func22 (by kernel_rfl) rfl #[.slice (some (ad.add z.1)) (z.2 - z.1) (c - z.1)] rfl (by (try simp only [List.map_toArray, List.map_cons, List.map_nil]); first | done | rfl) ?_; refine (HKP.out _ ?hC ?hc2).mono ?_; (case hC => repeat (first | exact HCZ.out | (with_reducible refine C_setCell2 ?_ HNEZ.out _ _))); (case hc2 => have := HP.out; have := HZ.out; omega); rintro e w5 ⟨rfl, hd⟩; refine ⟨_, rfl, ?_⟩; obtain ⟨⟨nd, rfl⟩⟩ := hd) | ((with_reducible refine gate_callee (f := 23) rfl ?_); refine goesL_ (some 118) rfl rfl Tryd.func23 (by kernel_rfl) rfl #[.string _] rfl (by (try simp only [List.map_toArray, List.map_cons, List.map_nil]); first | done | rfl) ?_; refine (errors_New.walk _ _).mono ?_; rintro e w5 ⟨rfl, rfl⟩; refine ⟨_, rfl, ?_⟩) | fail)
          go_ret
          rw [← HWS.out, HPW.out]
          exact PPost.of (alloc_same_heap _ (setCell_same_heap _ _ (setCell_same_heap _ _ (drewN_same_heap _ (setCell_same_heap _ _ (setCell_same_heap _ _ (setCell_same_heap _ _ HW.out))))))) (Below.alloc (Below.setCell (Below.setCell (pw_below_drewN (Below.setCell (Below.setCell (Below.setCell (below_mono HB.out HSZ.out) (Nat.le_refl _) _) (Nat.le_refl _) _) (Nat.le_refl _) _) _) (Nat.le_refl _) _) (Nat.le_refl _) _) (Nat.le_of_lt (lt_size (setCell_same_heap _ _ (setCell_same_heap _ _ (drewN_same_heap _ (setCell_same_heap _ _ (setCell_same_heap _ _ (setCell_same_heap _ _ HW.out)))))))) _) rfl rfl rfl ⟨_, _, rfl, lt_size HW.out, new_at (by (try simp only [setCell_size, drewN_size]))⟩
      · -- 3 words: big
        obtain ⟨s, r, z, rfl, hR, hq⟩ := h
        have HPW := Aside0.mk hR
        have hz := HIN.out z (by simp)
        have hzl : (seg l z).length = z.2 - z.1 := seg_len hz
        have hkp := ps_at ad c l z
        rw [hzl] at hkp
        obtain ⟨n, hn⟩ : ∃ n, n = psz (seg l z) := ⟨_, rfl⟩
        rw [← hn] at hkp hq
        have HN := Aside0.mk hn
        have HKP := Aside0.mk hkp
        have HZL := Aside0.mk hzl
        have HZ := Aside0.mk (show z.1 + (z.2 - z.1) ≤ l.length by omega)
        have HNEZ := Aside0.mk (show (ad.add z.1).block ≠ cb by rw [add_block]; have := HAB.out; omega)
        have b2 := beq_lits3
        have t1 : decide (n < 0) = false := decide_eq_false hq.1
        have t2 : (mp != -1) = true := bne_iff_ne.2 hq.2.1
        have t3 : decide (wrap64 mp < n) = true := by rw [HMP.out]; exact decide_eq_true hq.2.2
        clear hz hzl hkp hn hq hR
        rcases hst' with ⟨a, rfl⟩ | hst
        · have hak : a < l.length := by have := HT.out.2.1; have := HT.out.1; omega
          have r1 : decide ((0 : Int) ≤ (a : Int)) = true := decide_eq_true (by omega)
          have r2 := eq_true (show (0 : Int) ≤ (a : Int) by omega)
          have r3 := eq_true (show a ≤ l.length by omega)
          have r4 := eq_true (show (a : Int) ≤ (l.length : Int) by omega)
          have r5 := eq_false (show ¬ c = a by have := HP.out; omega)
          have r6 := eq_true (show l.length ≤ c from HP.out)
          have HW1 := Aside0.mk ((PubAt.last HT.out hk).trans HWS.out.symm)
          clear hak hk
          have hld := HLD.out cb mp
          go_wp2_with (first | ((with_reducible refine gate_builtin (b := .append) (xs := #[.tmp 39, .tmp 43]) rfl ?_); at_builtin; refine AnyRow.append (w0 := w) rfl (.tmp 39) (.tmp 43) 50 22 (.slice none 0 0) 1 24 rfl Tryd.underlying50 sl_info rfl (by decide) u6 out.length (out.map (sv ad c)) [.slice (some (ad.add a)) (l.length - a) (c - a)] rfl rfl rfl ?h1 ?h2 ?h3 ?h4 ?h5 ?_; (case h1 => intro u hu; rw [List.mem_singleton.1 hu]; rfl); (case h2 => have := HOL.out; simp only [maxLen]; omega); (case h3 => have := HOL.out; omega); (case h4 => exact HR.out); (case h5 => exact HB.out); intro vn_ w_ ho_ hb_; have n1_ := Aside0.mk ho_; have n2_ := Aside0.mk hb_; clear HR HB ho_ hb_; have HB := n2_; have HR := Aside0.mk (show AnyRow _ w.heap.size 1 vn_ [s, r, z].length ([s, r, z].map (sv ad c)) by rw [← HW1.out]; have := n1_.out; simpa [sv] using this); clear n1_ n2_; obtain ⟨A6, c6, e6, hc6, hf6⟩ := HR.out.form; subst e6; obtain ⟨g6, eA, hgb, hgs, hgc⟩ := hf6 (by simp); subst eA; have hWcb := (HB.out.block cb (by have := HSZ.out; omega)).trans HCB.out; have HW := Aside0.mk hWcb; have f1 : World.cell? _ ⟨cb, 1, none⟩ = some (.int .i32 mp) := (cell_of_heap hWcb).trans rfl; have f3 : World.cell? _ ⟨cb, 3, none⟩ = some (.slice none 0 0) := (cell_of_heap hWcb).trans rfl; have f4 : World.cell? _ ⟨cb, 4, none⟩ = some (.slice none 0 0) := (cell_of_heap hWcb).trans rfl; have f5 : World.cell? _ ⟨cb, 5, none⟩ = some (.slice none 0 0) := (cell_of_heap hWcb).trans rfl; have f6 : World.cell? _ ⟨cb, 6, none⟩ = some (.slice none 0 0) := (cell_of_heap hWcb).trans rfl; have f8 : World.cell? _ ⟨cb, 8, none⟩ = some (.int .i64 0) := (cell_of_heap hWcb).trans rfl; have y3 : World.frozen? _ ⟨cb, 3, none⟩ = false := frozen_of_heap (i := 3) hWcb; have y4 : World.frozen? _ ⟨cb, 4, none⟩ = false := frozen_of_heap (i := 4) hWcb; have y5 : World.frozen? _ ⟨cb, 5, none⟩ = false := frozen_of_heap (i := 5) hWcb; have y6 : World.frozen? _ ⟨cb, 6, none⟩ = false := frozen_of_heap (i := 6) hWcb; have y8 : World.frozen? _ ⟨cb, 8, none⟩ = false := frozen_of_heap (i := 8) hWcb; have c0 : World.cell? _ ⟨g6, 0, none⟩ = some (.slice (some (ad.add s.1)) (s.2 - s.1) (c - s.1)) := hgc 0 _ rfl; have c1 : World.cell? _ ⟨g6, 1, none⟩ = some (.slice (some (ad.add r.1)) (r.2 - r.1) (c - r.1)) := hgc 1 _ rfl; have c2 : World.cell? _ ⟨g6, 2, none⟩ = some (.slice (some (ad.add z.1)) (z.2 - z.1) (c - z.1)) := hgc 2 _ rfl; have ne1 := eq_false (show ¬ cb = g6 by have := HSZ.out; omega); have ne2 := eq_false (show ¬ g6 = cb by have := HSZ.out; omega); have ne3 := eq_false (show ¬ cb = 0 by have := H0.out; omega); have ne4 := eq_false (show ¬ 0 = cb by have := H0.out; omega); have gE := pw_cell_below HB.out HE.out; have HCZ := Aside0.mk (cut_C' (Kd.C_below HC.out HB.out) HZ.out HZL.out); have HB6 := Aside0.mk HB.out.size; clear hWcb hgb hgs hgc hf6 hc6) | ((with_reducible refine gate_callee (f := 22) rfl ?_); refine goesL_ (some 101) rfl rfl Tryd.func22 (by kernel_rfl) rfl #[.slice (some (ad.add z.1)) (z.2 - z.1) (c - z.1)] rfl (by (try simp only [List.map_toArray, List.map_cons, List.map_nil]); first | done | rfl) ?_; refine (HKP.out _ ?hC ?hc2).mono ?_; (case hC => repeat (first | exact HCZ.out | (with_reducible refine C_setCell2 ?_ HNEZ.out _ _))); (case hc2 => have := HP.out; have := HZ.out; omega); rintro e w5 ⟨rfl, hd⟩; refine ⟨_, rfl, ?_⟩; obtain ⟨⟨nd, rfl⟩⟩ := hd))
          go_ret
          rw [← HWS.out, HPW.out]
          exact PPost.of (setCell_same_heap _ _ (setCell_same_heap _ _ (drewN_same_heap _ (setCell_same_heap _ _ (setCell_same_heap _ _ (setCell_same_heap _ _ HW.out)))))) (Below.setCell (Below.setCell (pw_below_drewN (Below.setCell (Below.setCell (Below.setCell (below_mono HB.out HSZ.out) (Nat.le_refl _) _) (Nat.le_refl _) _) (Nat.le_refl _) _) _) (Nat.le_refl _) _) (Nat.le_refl _) _) rfl rfl rfl rfl
        · have r1 : decide ((0 : Int) ≤ st) = false := decide_eq_false (by omega)
          obtain rfl := (PubAt.done HT.out hst hk).trans HWS.out.symm
          clear hst hk
          (obtain ⟨A6, c6, e6, hc6, hf6⟩ := HR.out.form; subst e6; obtain ⟨g6, eA, hgb, hgs, hgc⟩ := hf6 (by simp); subst eA; have hWcb := (HB.out.block cb (by have := HSZ.out; omega)).trans HCB.out; have HW := Aside0.mk hWcb; have f1 : World.cell? _ ⟨cb, 1, none⟩ = some (.int .i32 mp) := (cell_of_heap hWcb).trans rfl; have f3 : World.cell? _ ⟨cb, 3, none⟩ = some (.slice none 0 0) := (cell_of_heap hWcb).trans rfl; have f4 : World.cell? _ ⟨cb, 4, none⟩ = some (.slice none 0 0) := (cell_of_heap hWcb).trans rfl; have f5 : World.cell? _ ⟨cb, 5, none⟩ = some (.slice none 0 0) := (cell_of_heap hWcb).trans rfl; have f6 : World.cell? _ ⟨cb, 6, none⟩ = some (.slice none 0 0) := (cell_of_heap hWcb).trans rfl; have f8 : World.cell? _ ⟨cb, 8, none⟩ = some (.int .i64 0) := (cell_of_heap hWcb).trans rfl; have y3 : World.frozen? _ ⟨cb, 3, none⟩ = false := frozen_of_heap (i := 3) hWcb; have y4 : World.frozen? _ ⟨cb, 4, none⟩ = false := frozen_of_heap (i := 4) hWcb; have y5 : World.frozen? _ ⟨cb, 5, none⟩ = false := frozen_of_heap (i := 5) hWcb; have y6 : World.frozen? _ ⟨cb, 6, none⟩ = false := frozen_of_heap (i := 6) hWcb; have y8 : World.frozen? _ ⟨cb, 8, none⟩ = false := frozen_of_heap (i := 8) hWcb; have c0 : World.cell? _ ⟨g6, 0, none⟩ = some (.slice (some (ad.add s.1)) (s.2 - s.1) (c - s.1)) := hgc 0 _ rfl; have c1 : World.cell? _ ⟨g6, 1, none⟩ = some (.slice (some (ad.add r.1)) (r.2 - r.1) (c - r.1)) := hgc 1 _ rfl; have c2 : World.cell? _ ⟨g6, 2, none⟩ = some (.slice (some (ad.add z.1)) (z.2 - z.1) (c - z.1)) := hgc 2 _ rfl; have ne1 := eq_false (show ¬ cb = g6 by have := HSZ.out; omega); have ne2 := eq_false (show ¬ g6 = cb by have := HSZ.out; omega); have ne3 := eq_false (show ¬ cb = 0 by have := H0.out; omega); have ne4 := eq_false (show ¬ 0 = cb by have := H0.out; omega); have gE := pw_cell_below HB.out HE.out; have HCZ := Aside0.mk (cut_C' (Kd.C_below HC.out HB.out) HZ.out HZL.out); have HB6 := Aside0.mk HB.out.size; clear hWcb hgb hgs hgc hf6 hc6)
          have hld := HLD.out cb mp
          go_wp2_with (first | ((with_reducible refine gate_callee (f := 22) rfl ?_); refine goesL_ (some 101) rfl rfl Tryd.func22 (by kernel_rfl) rfl #[.slice (some (ad.add z.1)) (z.2 - z.1) (c - z.1)] rfl (by (try simp only [List.map_toArray, List.map_cons, List.map_nil]); first | done | rfl) ?_; refine (HKP.out _ ?hC ?hc2).mono ?_; (case hC => repeat (first | exact HCZ.out | (with_reducible refine C_setCell2 ?_ HNEZ.out _ _))); (case hc2 => have := HP.out; have := HZ.out; omega); rintro e w5 ⟨rfl, hd⟩; refine ⟨_, rfl, ?_⟩; obtain ⟨⟨nd, rfl⟩⟩ := hd) | fail)
          go_ret
          rw [← HWS.out, HPW.out]
          exact PPost.of (setCell_same_heap _ _ (setCell_same_heap _ _ (drewN_same_heap _ (setCell_same_heap _ _ (setCell_same_heap _ _ (setCell_same_heap _ _ HW.out)))))) (Below.setCell (Below.setCell (pw_below_drewN (Below.setCell (Below.setCell (Below.setCell (below_mono HB.out HSZ.out) (Nat.le_refl _) _) (Nat.le_refl _) _) (Nat.le_refl _) _) _) (Nat.le_refl _) _) (Nat.le_refl _) _) rfl rfl rfl rfl
      · -- 3 words: ok1
        obtain ⟨s, r, z, rfl, hR, hq⟩ := h
        have HPW := Aside0.mk hR
        have hz := HIN.out z (by simp)
        have hzl : (seg l z).length = z.2 - z.1 := seg_len hz
        have hkp := ps_at ad c l z
        rw [hzl] at hkp
        obtain ⟨n, hn⟩ : ∃ n, n = psz (seg l z) := ⟨_, rfl⟩
        rw [← hn] at hkp hq
        have HN := Aside0.mk hn
        have HKP := Aside0.mk hkp
        have HZL := Aside0.mk hzl
        have HZ := Aside0.mk (show z.1 + (z.2 - z.1) ≤ l.length by omega)
        have HNEZ := Aside0.mk (show (ad.add z.1).block ≠ cb by rw [add_block]; have := HAB.out; omega)
        have b2 := beq_lits3
        have t1 : decide (n < 0) = false := decide_eq_false hq.1
        have t2 : (mp != -1) = false := by rw [hq.2]; rfl
        clear hz hzl hkp hn hq hR
        rcases hst' with ⟨a, rfl⟩ | hst
        · have hak : a < l.length := by have := HT.out.2.1; have := HT.out.1; omega
          have r1 : decide ((0 : Int) ≤ (a : Int)) = true := decide_eq_true (by omega)
          have r2 := eq_true (show (0 : Int) ≤ (a : Int) by omega)
          have r3 := eq_true (show a ≤ l.length by omega)
          have r4 := eq_true (show (a : Int) ≤ (l.length : Int) by omega)
          have r5 := eq_false (show ¬ c = a by have := HP.out; omega)
          have r6 := eq_true (show l.length ≤ c from HP.out)
          have HW1 := Aside0.mk ((PubAt.last HT.out hk).trans HWS.out.symm)
          clear hak hk
          have hld := HLD.out cb mp
          go_wp2_with (first | ((with_reducible refine gate_builtin (b := .append) (xs := #[.tmp 39, .tmp 43]) rfl ?_); at_builtin; refine AnyRow.append (w0 := w) rfl (.tmp 39) (.tmp 43) 50 22 (.slice none 0 0) 1 24 rfl Tryd.underlying50 sl_info rfl (by decide) u6 out.length (out.map (sv ad c)) [.slice (some (ad.add a)) (l.length - a) (c - a)] rfl rfl rfl ?h1 ?h2 ?h3 ?h4 ?h5 ?_; (case h1 => intro u hu; rw [List.mem_singleton.1 hu]; rfl); (case h2 => have := HOL.out; simp only [maxLen]; omega); (case h3 => have := HOL.out; omega); (case h4 => exact HR.out); (case h5 => exact HB.out); intro vn_ w_ ho_ hb_; have n1_ := Aside0.mk ho_; have n2_ := Aside0.mk hb_; clear HR HB ho_ hb_; have HB := n2_; have HR := Aside0.mk (show AnyRow _ w.heap.size 1 vn_ [s, r, z].length ([s, r, z].map (sv ad c)) by rw [← HW1.out]; have := n1_.out; simpa [sv] using this); clear n1_ n2_; obtain ⟨A6, c6, e6, hc6, hf6⟩ := HR.out.form; subst e6; obtain ⟨g6, eA, hgb, hgs, hgc⟩ := hf6 (by simp); subst eA; have hWcb := (HB.out.block cb (by have := HSZ.out; omega)).trans HCB.out; have HW := Aside0.mk hWcb; have f1 : World.cell? _ ⟨cb, 1, none⟩ = some (.int .i32 mp) := (cell_of_heap hWcb).trans rfl; have f3 : World.cell? _ ⟨cb, 3, none⟩ = some (.slice none 0 0) := (cell_of_heap hWcb).trans rfl; have f4 : World.cell? _ ⟨cb, 4, none⟩ = some (.slice none 0 0) := (cell_of_heap hWcb).trans rfl; have f5 : World.cell? _ ⟨cb, 5, none⟩ = some (.slice none 0 0) := (cell_of_heap hWcb).trans rfl; have f6 : World.cell? _ ⟨cb, 6, none⟩ = some (.slice none 0 0) := (cell_of_heap hWcb).trans rfl; have f8 : World.cell? _ ⟨cb, 8, none⟩ = some (.int .i64 0) := (cell_of_heap hWcb).trans rfl; have y3 : World.frozen? _ ⟨cb, 3, none⟩ = false := frozen_of_heap (i := 3) hWcb; have y4 : World.frozen? _ ⟨cb, 4, none⟩ = false := frozen_of_heap (i := 4) hWcb; have y5 : World.frozen? _ ⟨cb, 5, none⟩ = false := frozen_of_heap (i := 5) hWcb; have y6 : World.frozen? _ ⟨cb, 6, none⟩ = false := frozen_of_heap (i := 6) hWcb; have y8 : World.frozen? _ ⟨cb, 8, none⟩ = false := frozen_of_heap (i := 8) hWcb; have c0 : World.cell? _ ⟨g6, 0, none⟩ = some (.slice (some (ad.add s.1)) (s.2 - s.1) (c - s.1)) := hgc 0 _ rfl; have c1 : World.cell? _ ⟨g6, 1, none⟩ = some (.slice (some (ad.add r.1)) (r.2 - r.1) (c - r.1)) := hgc 1 _ rfl; have c2 : World.cell? _ ⟨g6, 2, none⟩ = some (.slice (some (ad.add z.1)) (z.2 - z.1) (c - z.1)) := hgc 2 _ rfl; have ne1 := eq_false (show ¬ cb = g6 by have := HSZ.out; omega); have ne2 := eq_false (show ¬ g6 = cb by have := HSZ.out; omega); have ne3 := eq_false (show ¬ cb = 0 by have := H0.out; omega); have ne4 := eq_false (show ¬ 0 = cb by have := H0.out; omega); have gE := pw_cell_below HB.out HE.out; have HCZ := Aside0.mk (cut_C' (Kd.C_below HC.out HB.out) HZ.out HZL.out); have HB6 := Aside0.mk HB.out.size; clear hWcb hgb hgs hgc hf6 hc6) | ((with_reducible refine gate_callee (f := 22) rfl ?_); refine goesL_ (some 101) rfl rfl Tryd.func22 (by kernel_rfl) rfl #[.slice (some (ad.add z.1)) (z.2 - z.1) (c - z.1)] rfl (by (try simp only [List.map_toArray, List.map_cons, List.map_nil]); first | done | rfl) ?_; refine (HKP.out _ ?hC ?hc2).mono ?_; (case hC => repeat (first | exact HCZ.out | (with_reducible refine C_setCell2 ?_ HNEZ.out _ _))); (case hc2 => have := HP.out; have := HZ.out; omega); rintro e w5 ⟨rfl, hd⟩; refine ⟨_, rfl, ?_⟩; obtain ⟨⟨nd, rfl⟩⟩ := hd))
          go_ret
          rw [← HWS.out, HPW.out]
          exact PPost.of (setCell_same_heap _ _ (setCell_same_heap _ _ (drewN_same_heap _ (setCell_same_heap _ _ (setCell_same_heap _ _ (setCell_same_heap _ _ HW.out)))))) (Below.setCell (Below.setCell (pw_below_drewN (Below.setCell (Below.setCell (Below.setCell (below_mono HB.out HSZ.out) (Nat.le_refl _) _) (Nat.le_refl _) _) (Nat.le_refl _) _) _) (Nat.le_refl _) _) (Nat.le_refl _) _) rfl rfl rfl ⟨rfl, rfl, rfl, congrArg (fun x => Value.int .i64 x) HN.out⟩
        · have r1 : decide ((0 : Int) ≤ st) = false := decide_eq_false (by omega)
          obtain rfl := (PubAt.done HT.out hst hk).trans HWS.out.symm
          clear hst hk
          (obtain ⟨A6, c6, e6, hc6, hf6⟩ := HR.out.form; subst e6; obtain ⟨g6, eA, hgb, hgs, hgc⟩ := hf6 (by simp); subst eA; have hWcb := (HB.out.block cb (by have := HSZ.out; omega)).trans HCB.out; have HW := Aside0.mk hWcb; have f1 : World.cell? _ ⟨cb, 1, none⟩ = some (.int .i32 mp) := (cell_of_heap hWcb).trans rfl; have f3 : World.cell? _ ⟨cb, 3, none⟩ = some (.slice none 0 0) := (cell_of_heap hWcb).trans rfl; have f4 : World.cell? _ ⟨cb, 4, none⟩ = some (.slice none 0 0) := (cell_of_heap hWcb).trans rfl; have f5 : World.cell? _ ⟨cb, 5, none⟩ = some (.slice none 0 0) := (cell_of_heap hWcb).trans rfl; have f6 : World.cell? _ ⟨cb, 6, none⟩ = some (.slice none 0 0) := (cell_of_heap hWcb).trans rfl; have f8 : World.cell? _ ⟨cb, 8, none⟩ = some (.int .i64 0) := (cell_of_heap hWcb).trans rfl; have y3 : World.frozen? _ ⟨cb, 3, none⟩ = false := frozen_of_heap (i := 3) hWcb; have y4 : World.frozen? _ ⟨cb, 4, none⟩ = false := frozen_of_heap (i := 4) hWcb; have y5 : World.frozen? _ ⟨cb, 5, none⟩ = false := frozen_of_heap (i := 5) hWcb; have y6 : World.frozen? _ ⟨cb, 6, none⟩ = false := frozen_of_heap (i := 6) hWcb; have y8 : World.frozen? _ ⟨cb, 8, none⟩ = false := frozen_of_heap (i := 8) hWcb; have c0 : World.cell? _ ⟨g6, 0, none⟩ = some (.slice (some (ad.add s.1)) (s.2 - s.1) (c - s.1)) := hgc 0 _ rfl; have c1 : World.cell? _ ⟨g6, 1, none⟩ = some (.slice (some (ad.add r.1)) (r.2 - r.1) (c - r.1)) := hgc 1 _ rfl; have c2 : World.cell? _ ⟨g6, 2, none⟩ = some (.slice (some (ad.add z.1)) (z.2 - z.1) (c - z.1)) := hgc 2 _ rfl; have ne1 := eq_false (show ¬ cb = g6 by have := HSZ.out; omega); have ne2 := eq_false (show ¬ g6 = cb by have := HSZ.out; omega); have ne3 := eq_false (show ¬ cb = 0 by have := H0.out; omega); have ne4 := eq_false (show ¬ 0 = cb by have := H0.out; omega); have gE := pw_cell_below HB.out HE.out; have HCZ := Aside0.mk (cut_C' (Kd.C_below HC.out HB.out) HZ.out HZL.out); have HB6 := Aside0.mk HB.out.size; clear hWcb hgb hgs hgc hf6 hc6)
          have hld := HLD.out cb mp
          go_wp2_with (first | ((with_reducible refine gate_callee (f := 22) rfl ?_); refine goesL_ (some 101) rfl rfl Tryd.func22 (by kernel_rfl) rfl #[.slice (some (ad.add z.1)) (z.2 - z.1) (c - z.1)] rfl (by (try simp only [List.map_toArray, List.map_cons, List.map_nil]); first | done | rfl) ?_; refine (HKP.out _ ?hC ?hc2).mono ?_; (case hC => repeat (first | exact HCZ.out | (with_reducible refine C_setCell2 ?_ HNEZ.out _ _))); (case hc2 => have := HP.out; have := HZ.out; omega); rintro e w5 ⟨rfl, hd⟩; refine ⟨_, rfl, ?_⟩; obtain ⟨⟨nd, rfl⟩⟩ := hd) | fail)
          go_ret
          rw [← HWS.out, HPW.out]
          exact PPost.of (setCell_same_heap _ _ (setCell_same_heap _ _ (drewN_same_heap _ (setCell_same_heap _ _ (setCell_same_heap _ _ (setCell_same_heap _ _ HW.out)))))) (Below.setCell (Below.setCell (pw_below_drewN (Below.setCell (Below.setCell (Below.setCell (below_mono HB.out HSZ.out) (Nat.le_refl _) _) (Nat.le_refl _) _) (Nat.le_refl _) _) _) (Nat.le_refl _) _) (Nat.le_refl _) _) rfl rfl rfl ⟨rfl, rfl, rfl, congrArg (fun x => Value.int .i64 x) HN.out⟩
      · -- 3 words: ok2
        obtain ⟨s, r, z, rfl, hR, hq⟩ := h
        have HPW := Aside0.mk hR
        have hz := HIN.out z (by simp)
        have hzl : (seg l z).length = z.2 - z.1 := seg_len hz
        have hkp := ps_at ad c l z
        rw [hzl] at hkp
        obtain ⟨n, hn⟩ : ∃ n, n = psz (seg l z) := ⟨_, rfl⟩
        rw [← hn] at hkp hq
        have HN := Aside0.mk hn
        have HKP := Aside0.mk hkp
        have HZL := Aside0.mk hzl
        have HZ := Aside0.mk (show z.1 + (z.2 - z.1) ≤ l.length by omega)
        have HNEZ := Aside0.mk (show (ad.add z.1).block ≠ cb by rw [add_block]; have := HAB.out; omega)
        have b2 := beq_lits3
        have t1 : decide (n < 0) = false := decide_eq_false hq.1
        have t2 : (mp != -1) = true := bne_iff_ne.2 hq.2.1
        have t3 : decide (wrap64 mp < n) = false := by rw [HMP.out]; exact decide_eq_false hq.2.2
        clear hz hzl hkp hn hq hR
        rcases hst' with ⟨a, rfl⟩ | hst
        · have hak : a < l.length := by have := HT.out.2.1; have := HT.out.1; omega
          have r1 : decide ((0 : Int) ≤ (a : Int)) = true := decide_eq_true (by omega)
          have r2 := eq_true (show (0 : Int) ≤ (a : Int) by omega)
          have r3 := eq_true (show a ≤ l.length by omega)
          have r4 := eq_true (show (a : Int) ≤ (l.length : Int) by omega)
          have r5 := eq_false (show ¬ c = a by have := HP.out; omega)
          have r6 := eq_true (show l.length ≤ c from HP.out)
          have HW1 := Aside0.mk ((PubAt.last HT.out hk).trans HWS.out.symm)
          clear hak hk
          have hld := HLD.out cb mp
          go_wp2_with (first | ((with_reducible refine gate_builtin (b := .append) (xs := #[.tmp 39, .tmp 43]) rfl ?_); at_builtin; refine AnyRow.append (w0 := w) rfl (.tmp 39) (.tmp 43) 50 22 (.slice none 0 0) 1 24 rfl Tryd.underlying50 sl_info rfl (by decide) u6 out.length (out.map (sv ad c)) [.slice (some (ad.add a)) (l.length - a) (c - a)] rfl rfl rfl ?h1 ?h2 ?h3 ?h4 ?h5 ?_; (case h1 => intro u hu; rw [List.mem_singleton.1 hu]; rfl); (case h2 => have := HOL.out; simp only [maxLen]; omega); (case h3 => have := HOL.out; omega); (case h4 => exact HR.out); (case h5 => exact HB.out); intro vn_ w_ ho_ hb_; have n1_ := Aside0.mk ho_; have n2_ := Aside0.mk hb_; clear HR HB ho_ hb_; have HB := n2_; have HR := Aside0.mk (show AnyRow _ w.heap.size 1 vn_ [s, r, z].length ([s, r, z].map (sv ad c)) by rw [← HW1.out]; have := n1_.out; simpa [sv] using this); clear n1_ n2_; obtain ⟨A6, c6, e6, hc6, hf6⟩ := HR.out.form; subst e6; obtain ⟨g6, eA, hgb, hgs, hgc⟩ := hf6 (by simp); subst eA; have hWcb := (HB.out.block cb (by have := HSZ.out; omega)).trans HCB.out; have HW := Aside0.mk hWcb; have f1 : World.cell? _ ⟨cb, 1, none⟩ = some (.int .i32 mp) := (cell_of_heap hWcb).trans rfl; have f3 : World.cell? _ ⟨cb, 3, none⟩ = some (.slice none 0 0) := (cell_of_heap hWcb).trans rfl; have f4 : World.cell? _ ⟨cb, 4, none⟩ = some (.slice none 0 0) := (cell_of_heap hWcb).trans rfl; have f5 : World.cell? _ ⟨cb, 5, none⟩ = some (.slice none 0 0) := (cell_of_heap hWcb).trans rfl; have f6 : World.cell? _ ⟨cb, 6, none⟩ = some (.slice none 0 0) := (cell_of_heap hWcb).trans rfl; have f8 : World.cell? _ ⟨cb, 8, none⟩ = some (.int .i64 0) := (cell_of_heap hWcb).trans rfl; have y3 : World.frozen? _ ⟨cb, 3, none⟩ = false := frozen_of_heap (i := 3) hWcb; have y4 : World.frozen? _ ⟨cb, 4, none⟩ = false := frozen_of_heap (i := 4) hWcb; have y5 : World.frozen? _ ⟨cb, 5, none⟩ = false := frozen_of_heap (i := 5) hWcb; have y6 : World.frozen? _ ⟨cb, 6, none⟩ = false := frozen_of_heap (i := 6) hWcb; have y8 : World.frozen? _ ⟨cb, 8, none⟩ = false := frozen_of_heap (i := 8) hWcb; have c0 : World.cell? _ ⟨g6, 0, none⟩ = some (.slice (some (ad.add s.1)) (s.2 - s.1) (c - s.1)) := hgc 0 _ rfl; have c1 : World.cell? _ ⟨g6, 1, none⟩ = some (.slice (some (ad.add r.1)) (r.2 - r.1) (c - r.1)) := hgc 1 _ rfl; have c2 : World.cell? _ ⟨g6, 2, none⟩ = some (.slice (some (ad.add z.1)) (z.2 - z.1) (c - z.1)) := hgc 2 _ rfl; have ne1 := eq_false (show ¬ cb = g6 by have := HSZ.out; omega); have ne2 := eq_false (show ¬ g6 = cb by have := HSZ.out; omega); have ne3 := eq_false (show ¬ cb = 0 by have := H0.out; omega); have ne4 := eq_false (show ¬ 0 = cb by have := H0.out; omega); have gE := pw_cell_below HB.out HE.out; have HCZ := Aside0.mk (cut_C' (Kd.C_below HC.out HB.out) HZ.out HZL.out); have HB6 := Aside0.mk HB.out.size; clear hWcb hgb hgs hgc hf6 hc6) | ((with_reducible refine gate_callee (f := 22) rfl ?_); refine goesL_ (some 101) rfl rfl Tryd.func22 (by kernel_rfl) rfl #[.slice (some (ad.add z.1)) (z.2 - z.1) (c - z.1)] rfl (by (try simp only [List.map_toArray, List.map_cons, List.map_nil]); first | done | rfl) ?_; refine (HKP.out _ ?hC ?hc2).mono ?_; (case hC => repeat (first | exact HCZ.out | (with_reducible refine C_setCell2 ?_ HNEZ.out _ _))); (case hc2 => have := HP.out; have := HZ.out; omega); rintro e w5 ⟨rfl, hd⟩; refine ⟨_, rfl, ?_⟩; obtain ⟨⟨nd, rfl⟩⟩ := hd))
          go_ret
          rw [← HWS.out, HPW.out]
          exact PPost.of (setCell_same_heap _ _ (setCell_same_heap _ _ (drewN_same_heap _ (setCell_same_heap _ _ (setCell_same_heap _ _ (setCell_same_heap _ _ HW.out)))))) (Below.setCell (Below.setCell (pw_below_drewN (Below.setCell (Below.setCell (Below.setCell (below_mono HB.out HSZ.out) (Nat.le_refl _) _) (Nat.le_refl _) _) (Nat.le_refl _) _) _) (Nat.le_refl _) _) (Nat.le_refl _) _) rfl rfl rfl ⟨rfl, rfl, rfl, congrArg (fun x => Value.int .i64 x) HN.out⟩
        · have r1 : decide ((0 : Int) ≤ st) = false := decide_eq_false (by omega)
          obtain rfl := (PubAt.done HT.out hst hk).trans HWS.out.symm
          clear hst hk
          (obtain ⟨A6, c6, e6, hc6, hf6⟩ := HR.out.form; subst e6; obtain ⟨g6, eA, hgb, hgs, hgc⟩ := hf6 (by simp); subst eA; have hWcb := (HB.out.block cb (by have := HSZ.out; omega)).trans HCB.out; have HW := Aside0.mk hWcb; have f1 : World.cell? _ ⟨cb, 1, none⟩ = some (.int .i32 mp) := (cell_of_heap hWcb).trans rfl; have f3 : World.cell? _ ⟨cb, 3, none⟩ = some (.slice none 0 0) := (cell_of_heap hWcb).trans rfl; have f4 : World.cell? _ ⟨cb, 4, none⟩ = some (.slice none 0 0) := (cell_of_heap hWcb).trans rfl; have f5 : World.cell? _ ⟨cb, 5, none⟩ = some (.slice none 0 0) := (cell_of_heap hWcb).trans rfl; have f6 : World.cell? _ ⟨cb, 6, none⟩ = some (.slice none 0 0) := (cell_of_heap hWcb).trans rfl; have f8 : World.cell? _ ⟨cb, 8, none⟩ = some (.int .i64 0) := (cell_of_heap hWcb).trans rfl; have y3 : World.frozen? _ ⟨cb, 3, none⟩ = false := frozen_of_heap (i := 3) hWcb; have y4 : World.frozen? _ ⟨cb, 4, none⟩ = false := frozen_of_heap (i := 4) hWcb; have y5 : World.frozen? _ ⟨cb, 5, none⟩ = false := frozen_of_heap (i := 5) hWcb; have y6 : World.frozen? _ ⟨cb, 6, none⟩ = false := frozen_of_heap (i := 6) hWcb; have y8 : World.frozen? _ ⟨cb, 8, none⟩ = false := frozen_of_heap (i := 8) hWcb; have c0 : World.cell? _ ⟨g6, 0, none⟩ = some (.slice (some (ad.add s.1)) (s.2 - s.1) (c - s.1)) := hgc 0 _ rfl; have c1 : World.cell? _ ⟨g6, 1, none⟩ = some (.slice (some (ad.add r.1)) (r.2 - r.1) (c - r.1)) := hgc 1 _ rfl; have c2 : World.cell? _ ⟨g6, 2, none⟩ = some (.slice (some (ad.add z.1)) (z.2 - z.1) (c - z.1)) := hgc 2 _ rfl; have ne1 := eq_false (show ¬ cb = g6 by have := HSZ.out; omega); have ne2 := eq_false (show ¬ g6 = cb by have := HSZ.out; omega); have ne3 := eq_false (show ¬ cb = 0 by have := H0.out; omega); have ne4 := eq_false (show ¬ 0 = cb by have := H0.out; omega); have gE := pw_cell_below HB.out HE.out; have HCZ := Aside0.mk (cut_C' (Kd.C_below HC.out HB.out) HZ.out HZL.out); have HB6 := Aside0.mk HB.out.size; clear hWcb hgb hgs hgc hf6 hc6)
          have hld := HLD.out cb mp
          go_wp2_with (first | ((with_reducible refine gate_callee (f := 22) rfl ?_); refine goesL_ (some 101) rfl rfl Tryd.func22 (by kernel_rfl) rfl #[.slice (some (ad.add z.1)) (z.2 - z.1) (c - z.1)] rfl (by (try simp only [List.map_toArray, List.map_cons, List.map_nil]); first | done | rfl) ?_; refine (HKP.out _ ?hC ?hc2).mono ?_; (case hC => repeat (first | exact HCZ.out | (with_reducible refine C_setCell2 ?_ HNEZ.out _ _))); (case hc2 => have := HP.out; have := HZ.out; omega); rintro e w5 ⟨rfl, hd⟩; refine ⟨_, rfl, ?_⟩; obtain ⟨⟨nd, rfl⟩⟩ := hd) | fail)
          go_ret
          rw [← HWS.out, HPW.out]
          exact PPost.of (setCell_same_heap _ _ (setCell_same_heap _ _ (drewN_same_heap _ (setCell_same_heap _ _ (setCell_same_heap _ _ (setCell_same_heap _ _ HW.out)))))) (Below.setCell (Below.setCell (pw_below_drewN (Below.setCell (Below.setCell (Below.setCell (below_mono HB.out HSZ.out) (Nat.le_refl _) _) (Nat.le_refl _) _) (Nat.le_refl _) _) _) (Nat.le_refl _) _) (Nat.le_refl _) _) rfl rfl rfl ⟨rfl, rfl, rfl, congrArg (fun x => Value.int .i64 x) HN.out⟩
      · -- 0 words: bad
        obtain ⟨hR, hn2, hn3⟩ := h
        have HPW := Aside0.mk hR
        have t1 : ((ws.length : Int) == 2) = false := beq_eq_false_iff_ne.2 (by omega)
        have t2 : ((ws.length : Int) == 3) = false := beq_eq_false_iff_ne.2 (by omega)
        have t3 : (ws.length == 2) = false := beq_eq_false_iff_ne.2 hn2
        have t4 : (ws.length == 3) = false := beq_eq_false_iff_ne.2 hn3
        clear hR hn2 hn3
        rcases hst' with ⟨a, rfl⟩ | hst
        · have hak : a < l.length := by have := HT.out.2.1; have := HT.out.1; omega
          have r1 : decide ((0 : Int) ≤ (a : Int)) = true := decide_eq_true (by omega)
          have r2 := eq_true (show (0 : Int) ≤ (a : Int) by omega)
          have r3 := eq_true (show a ≤ l.length by omega)
          have r4 := eq_true (show (a : Int) ≤ (l.length : Int) by omega)
          have r5 := eq_false (show ¬ c = a by have := HP.out; omega)
          have r6 := eq_true (show l.length ≤ c from HP.out)
          have HW1 := Aside0.mk ((PubAt.last HT.out hk).trans HWS.out.symm)
          clear hak hk
          have hld := HLD.out cb mp
          go_wp2_with (first | ((with_reducible refine gate_builtin (b := .append) (xs := #[.tmp 39, .tmp 43]) rfl ?_); at_builtin; refine AnyRow.append (w0 := w) rfl (.tmp 39) (.tmp 43) 50 22 (.slice none 0 0) 1 24 rfl Tryd.underlying50 sl_info rfl (by decide) u6 out.length (out.map (sv ad c)) [.slice (some (ad.add a)) (l.length - a) (c - a)] rfl rfl rfl ?h1 ?h2 ?h3 ?h4 ?h5 ?_; (case h1 => intro u hu; rw [List.mem_singleton.1 hu]; rfl); (case h2 => have := HOL.out; simp only [maxLen]; omega); (case h3 => have := HOL.out; omega); (case h4 => exact HR.out); (case h5 => exact HB.out); intro vn_ w_ ho_ hb_; have n1_ := Aside0.mk ho_; have n2_ := Aside0.mk hb_; clear HR HB ho_ hb_; have HB := n2_; have HR := Aside0.mk (show AnyRow _ w.heap.size 1 vn_ ws.length (ws.map (sv ad c)) by rw [← HW1.out]; have := n1_.out; simpa [sv] using this); clear n1_ n2_; obtain ⟨A6, c6, e6, hc6, hf6⟩ := HR.out.form; subst e6; have hWcb := (HB.out.block cb (by have := HSZ.out; omega)).trans HCB.out; have HW := Aside0.mk hWcb; have f3 : World.cell? _ ⟨cb, 3, none⟩ = some (.slice none 0 0) := (cell_of_heap hWcb).trans rfl; have y3 : World.frozen? _ ⟨cb, 3, none⟩ = false := frozen_of_heap (i := 3) hWcb; have HB6 := Aside0.mk HB.out.size; clear hWcb hf6 hc6) | ((with_reducible refine gate_callee (f := 23) rfl ?_); refine goesL_ (some 52) rfl rfl Tryd.func23 (by kernel_rfl) rfl #[.string _] rfl (by (try simp only [List.map_toArray, List.map_cons, List.map_nil]); first | done | rfl) ?_; refine (errors_New.walk _ _).mono ?_; rintro e w5 ⟨rfl, rfl⟩; refine ⟨_, rfl, ?_⟩))
          go_ret
          rw [← HWS.out, HPW.out]
          exact PPost.of (alloc_same_heap _ (setCell_same_heap _ _ HW.out)) (Below.alloc (Below.setCell (below_mono HB.out HSZ.out) (Nat.le_refl _) _) (Nat.le_of_lt (lt_size (setCell_same_heap _ _ HW.out))) _) rfl rfl rfl ⟨_, _, rfl, lt_size HW.out, new_at (by (try simp only [setCell_size, drewN_size]))⟩
        · have r1 : decide ((0 : Int) ≤ st) = false := decide_eq_false (by omega)
          obtain rfl := (PubAt.done HT.out hst hk).trans HWS.out.symm
          clear hst hk
          (obtain ⟨A6, c6, e6, hc6, hf6⟩ := HR.out.form; subst e6; have hWcb := (HB.out.block cb (by have := HSZ.out; omega)).trans HCB.out; have HW := Aside0.mk hWcb; have f3 : World.cell? _ ⟨cb, 3, none⟩ = some (.slice none 0 0) := (cell_of_heap hWcb).trans rfl; have y3 : World.frozen? _ ⟨cb, 3, none⟩ = false := frozen_of_heap (i := 3) hWcb; have HB6 := Aside0.mk HB.out.size; clear hWcb hf6 hc6)
          have hld := HLD.out cb mp
          go_wp2_with (first | ((with_reducible refine gate_callee (f := 23) rfl ?_); refine goesL_ (some 52) rfl rfl Tryd.func23 (by kernel_rfl) rfl #[.string _] rfl (by (try simp only [List.map_toArray, List.map_cons, List.map_nil]); first | done | rfl) ?_; refine (errors_New.walk _ _).mono ?_; rintro e w5 ⟨rfl, rfl⟩; refine ⟨_, rfl, ?_⟩) | fail)
          go_ret
          rw [← HWS.out, HPW.out]
          exact PPost.of (alloc_same_heap _ (setCell_same_heap _ _ HW.out)) (Below.alloc (Below.setCell (below_mono HB.out HSZ.out) (Nat.le_refl _) _) (Nat.le_of_lt (lt_size (setCell_same_heap _ _ HW.out))) _) rfl rfl rfl ⟨_, _, rfl, lt_size HW.out, new_at (by (try simp only [setCell_size, drewN_size]))⟩
set_option maxHeartbeats 8000000 in
set_option maxRecDepth 100000 in
/-- .. of nothing. -/
theorem processPub.nil (cb : Nat) (mp : Int) (A : Option Addr) (c : Nat) (w : World) (ad ea : Addr) (c' : Nat)
    (hcb : w.heap[cb]? = some (.cells #[.int .i64 0, .int .i32 mp, .bool false, .slice none 0 0, .slice none 0 0, .slice none 0 0, .slice none 0 0, .slice none 0 0, .int .i64 0, .int .i64 0] 47 (0, 0)))
    (hsz : w.heap.size = cb + 1) :
    Calls Tryd.prog 17 #[.pointer (some ⟨cb, 0, none⟩), .slice A 0 c] w (PPost w cb ad ea c' .bad) := by
  have hW := alloc_same_heap (.cells #[.slice none 0 0, .slice none 0 0, .slice none 0 0] 49) hcb
  have f3 : World.cell? _ ⟨cb, 3, none⟩ = some (.slice none 0 0) := (cell_of_heap hW).trans rfl
  have y3 : World.frozen? _ ⟨cb, 3, none⟩ = false := frozen_of_heap (i := 3) hW
  have HW := Aside0.mk hW
  have HSZ := Aside0.mk hsz
  clear hcb hsz hW
  go_enter Tryd.func17, Tryd.ntmps17
  go_wp2
  refine wp_loop_rounds 1 ?_
  rw [rounds_succ]
  go_wp2_with ((with_reducible refine gate_callee (f := 23) rfl ?_); refine goesL_ (some 52) rfl rfl Tryd.func23 (by kernel_rfl) rfl #[.string _] rfl (by (try simp only [List.map_toArray, List.map_cons, List.map_nil]); first | done | rfl) ?_; refine (errors_New.walk _ _).mono ?_; rintro e w5 ⟨rfl, rfl⟩; refine ⟨_, rfl, ?_⟩)
  go_ret
  exact PPost.of (alloc_same_heap _ (setCell_same_heap _ _ HW.out)) (Below.alloc (Below.setCell ((Below.refl cb w).alloc (by have := HSZ.out; omega) _) (Nat.le_refl _) _) (Nat.le_of_lt (lt_size (setCell_same_heap _ _ HW.out))) _) rfl rfl rfl ⟨_, _, rfl, by have := HSZ.out; omega, new_at (by (try simp only [setCell_size]); exact (Array.size_push ..).symm)⟩
def RPost (w : World) (ad ea : Addr) (c : Nat) (R : PubRes) (e : Ending) (w' : World) : Prop :=
  ∃ v4 v5 v8 er, e = .returned (.tuple #[v4, v5, v8, er]) ∧ Below w.heap.size w w' ∧ PRes w' w.heap.size ad ea c er v4 v5 v8 R
set_option maxHeartbeats 8000000 in
set_option maxRecDepth 100000 in
theorem ReadPub.walk (A : Option Addr) (ad : Addr) (l : List Int) (hA : 0 < l.length → A = some ad) (c : Nat) (mp : Int) (w : World) (hC : Kd.C (Kd.int .u8) w A l.length l) (hcp : l.length ≤ c) (hl : l.length ≤ 2147483647) (hcm : c ≤ maxLen) (hab : ad.block < w.heap.size)
    (ea : Addr) (hE : w.cell? ⟨0, 0, none⟩ = some (.iface 56 (.pointer (some ea)))) (hmp : wrap64 mp = mp) :
    Calls Tryd.prog 12 #[.slice A l.length c, .int .i32 mp] w (RPost w ad ea c (pubW (spans l 0 (-1)) l mp)) := by
  have h0 : 0 < w.heap.size := Nat.lt_of_le_of_lt (Nat.zero_le _) (World.block_lt_of_cell? w _ hE)
  have hpp : ∀ W : World, W = w.alloc (.cells #[.int .i64 0, .int .i32 mp, .bool false, .slice none 0 0, .slice none 0 0, .slice none 0 0, .slice none 0 0, .slice none 0 0, .int .i64 0, .int .i64 0] 47) →
      Calls Tryd.prog 17 #[.pointer (some ⟨w.heap.size, 0, none⟩), .slice A l.length c] W (PPost W w.heap.size ad ea c (pubW (spans l 0 (-1)) l mp)) := by
    intro W e
    have hcb : W.heap[w.heap.size]? = some (.cells #[.int .i64 0, .int .i32 mp, .bool false, .slice none 0 0, .slice none 0 0, .slice none 0 0, .slice none 0 0, .slice none 0 0, .int .i64 0, .int .i64 0] 47 (0, 0)) := by rw [e]; exact heap_alloc_new w _
    have hsz : W.heap.size = w.heap.size + 1 := by rw [e]; exact Array.size_push ..
    rcases Nat.eq_zero_or_pos l.length with hz | hp
    · obtain rfl := List.eq_nil_of_length_eq_zero hz
      exact processPub.nil w.heap.size mp A c W ad ea c hcb hsz
    · obtain rfl := hA hp
      have hbel : Below w.heap.size w W := by rw [e]; exact below_alloc (Below.refl _ _) _
      exact processPub.walk w.heap.size mp ad c l W hp (Kd.C_below hC hbel) hcp hl hcm hcb hsz hab ea (pw_cell_below hbel hE) h0 hmp
  have HPP := Aside0.mk hpp
  clear hpp hA hC hcp hl hcm hab hE hmp h0
  go_enter Tryd.func12, Tryd.ntmps12
  go_wp2_with fail
  refine (HPP.out _ rfl).mono ?_
  rintro e w1 ⟨er, cells, v4, v5, v8, rfl, hh, hb, hlt, h4, h5, h8, hres⟩
  have c4 := (cell_of_heap (i := 4) hh).trans h4
  have c5 := (cell_of_heap (i := 5) hh).trans h5
  have c8 := (cell_of_heap (i := 8) hh).trans h8
  have HB := Aside0.mk ((below_alloc (Below.refl w.heap.size w) _).trans hb)
  have HR := Aside0.mk hres
  clear hh hb hlt h4 h5 h8 hres
  go_wp2_with fail
  go_quiet (fail)
  go_wp2_with fail
  try simp only [Exit.inBlock, Exit.then]
  refine bodyPost_ret (results_tmp4 rfl _ _ _) rfl ?_
  exact ⟨v4, v5, v8, er, rfl, pw_below_drewN HB.out _, HR.out.heap rfl⟩
section
variable {P : Program} (w : World)
theorem run_sameAddr_other3 {a b : Addr} {ca cb : Array Value} {ta tb : TypeId} {fr : Nat × Nat} {k : Nat} (hne : b.block ≠ a.block) (ha : w.heap[a.block]? = some (.cells ca ta fr)) (hk : ca.size = k + 1) (hb : w.heap[b.block]? = some (.cells cb tb (0, 0))) :
    (sameAddr b a).run P w = .ok false w := by
  simp [sameAddr, hne, World.frozen?, ha, hb, noView, viewAt, World.shape?, mayBeOne, stringish, hk]
theorem run_equalIn_iface_ptr_new (d : Nat) {ti tp te : TypeId} {ms : Array (String × TypeId)} {i j : TypeInfo} {a b : Addr} {ca cb : Array Value} {ta tb : TypeId} {fr : Nat × Nat} {k : Nat}
    (hi : P.underlying ti = some (.interface ms)) (hp : P.underlying tp = some (.pointer te)) (hinfo : P.info? tp = some i) (hcomp : i.comparable = true) (hte : P.info? te = some j) (hsz : j.size ≠ 0)
    (hne : b.block ≠ a.block) (ha : w.heap[a.block]? = some (.cells ca ta fr)) (hk : ca.size = k + 1) (hb : w.heap[b.block]? = some (.cells cb tb (0, 0))) :
    (Op.equalIn (d + 2) ti (.iface tp (.pointer (some b))) (.iface tp (.pointer (some a)))).run P w = .ok false w := by
  simp [Op.equalIn, run_underlying hi, run_underlying hp, typeInfo, hinfo, hcomp, sizeOf, hte, hsz, run_sameAddr_other3 w hne ha hk hb]
theorem run_eql_iface_ptr_new {ti tp te : TypeId} {ms : Array (String × TypeId)} {i j : TypeInfo} {a b : Addr} {ca cb : Array Value} {ta tb : TypeId} {fr : Nat × Nat} {k : Nat}
    (hi : P.underlying ti = some (.interface ms)) (hp : P.underlying tp = some (.pointer te)) (hinfo : P.info? tp = some i) (hcomp : i.comparable = true) (hte : P.info? te = some j) (hsz : j.size ≠ 0)
    (hne : b.block ≠ a.block) (ha : w.heap[a.block]? = some (.cells ca ta fr)) (hk : ca.size = k + 1) (hb : w.heap[b.block]? = some (.cells cb tb (0, 0))) :
    (binOp .eql ti (.iface tp (.pointer (some b))) (.iface tp (.pointer (some a)))).run P w = .ok (.bool false) w := by
  simp only [binOp]
  simp [Op.equal, Op.maxDepth, run_equalIn_iface_ptr_new w 9998 hi hp hinfo hcomp hte hsz hne ha hk hb]
end
theorem err_cmp : ∃ i j, Tryd.prog.info? 56 = some i ∧ i.comparable = true ∧ Tryd.prog.info? 58 = some j ∧ j.size ≠ 0 := by
  obtain ⟨i, hi, hc⟩ := Option.map_eq_some_iff.1 (show (Tryd.prog.info? 56).map (·.comparable) = some true by kernel_rfl)
  obtain ⟨j, hj, hz⟩ := Option.map_eq_some_iff.1 (show (Tryd.prog.info? 58).map (·.size) = some 1 by kernel_rfl)
  exact ⟨i, j, hi, hc, hj, by rw [hz]; decide⟩
/-- The error's variable: a pointer to a text. -/
def MaxLaid (w : World) (ea : Addr) : Prop := w.cell? ⟨0, 0, none⟩ = some (.iface 56 (.pointer (some ea))) ∧ ∃ v, w.cell? ea = some v
theorem MaxLaid.below {w w' : World} {ea : Addr} (h : MaxLaid w ea) (hb : Below w.heap.size w w') : MaxLaid w' ea := ⟨pw_cell_below hb h.1, h.2.elim fun v hv => ⟨v, pw_cell_below hb hv⟩⟩
theorem MaxLaid.block {w : World} {ea : Addr} (h : MaxLaid w ea) : ∃ ca ta fr k, w.heap[ea.block]? = some (.cells ca ta fr) ∧ ca.size = k + 1 := by
  obtain ⟨_, v, hv⟩ := h
  unfold World.cell? at hv
  split at hv
  · rename_i ca ta fr hh
    refine ⟨ca, ta, fr, ca.size - 1, hh, ?_⟩
    split at hv
    · simp at hv
    · have := (Array.getElem?_eq_some_iff.1 hv).1; omega
  · simp at hv
theorem fault_bad (b : Nat) (s : ByteArray) (ea : Addr) (w : World) (hE : MaxLaid w ea) (hb : w.heap[b]? = some (.cells #[.string s] 58 (0, 0))) (hne : b ≠ ea.block) :
    Calls Tryd.prog 14 #[.iface 56 (.pointer (some ⟨b, 0, none⟩))] w fun e w' => e = .returned (.int .i64 1) ∧ Below w.heap.size w w' := by
  obtain ⟨ca, ta, fr, k, hh, hk⟩ := hE.block
  obtain ⟨i, j, hi, hc, hj, hz⟩ := err_cmp
  have heq := run_eql_iface_ptr_new (P := Tryd.prog) w Tryd.underlying38 Tryd.underlying56 hi hc hj hz (a := ea) (b := ⟨b, 0, none⟩) hne hh hk hb
  have gE := hE.1
  clear hE hb hne hh hk hi hc hj hz
  go_enter Tryd.func14, Tryd.ntmps14
  go_wp2_with fail
  go_ret
  exact ⟨rfl, Below.refl _ _⟩
theorem fault_big (ea : Addr) (w : World) (hE : MaxLaid w ea) :
    Calls Tryd.prog 14 #[.iface 56 (.pointer (some ea))] w fun e w' => e = .returned (.int .i64 2) ∧ Below w.heap.size w w' := by
  obtain ⟨i, j, hi, hc, hj, hz⟩ := err_cmp
  have heq := run_eql_iface_ptr_same (P := Tryd.prog) w ea Tryd.underlying38 Tryd.underlying56 hi hc hj
  have gE := hE.1
  clear hE hi hc hj hz
  go_enter Tryd.func14, Tryd.ntmps14
  go_wp2_with fail
  go_ret
  exact ⟨rfl, Below.refl _ _⟩
def segO (l : List Int) : Option (Nat × Nat) → List Int
  | none => []
  | some r => seg l r
/-- What the arguments come to, read. -/
def IRes (w : World) (l : List Int) (e : Ending) : PubRes → Prop
  | .ok s r z => ∃ A0 c0 A1 c1, e = .returned (.tuple #[.slice A0 (seg l s).length c0, .slice A1 (segO l r).length c1, .int .i64 z, .int .i64 0]) ∧ Kd.C (Kd.int .u8) w A0 (seg l s).length (seg l s) ∧ (seg l s).length ≤ c0 ∧ Kd.C (Kd.int .u8) w A1 (segO l r).length (segO l r) ∧ (segO l r).length ≤ c1
  | .bad => e = .returned (.tuple #[.slice none 0 0, .slice none 0 0, .int .i64 0, .int .i64 1])
  | .big => e = .returned (.tuple #[.slice none 0 0, .slice none 0 0, .int .i64 0, .int .i64 2])
def IPost (w : World) (l : List Int) (R : PubRes) (e : Ending) (w' : World) : Prop := Below w.heap.size w w' ∧ IRes w' l e R
theorem pubFin_ok {mp : Int} {s0 s : Nat × Nat} {r0 r : Option (Nat × Nat)} {n z : Int} (h : pubFin mp s0 r0 n = .ok s r z) : s0 = s ∧ r0 = r ∧ n = z := by
  unfold pubFin at h
  split at h
  · simp at h
  · split at h
    · simp at h
    · simpa using h
theorem pubW_ok {ws : List (Nat × Nat)} {l : List Int} {mp : Int} {s : Nat × Nat} {r : Option (Nat × Nat)} {z : Int} (h : pubW ws l mp = .ok s r z) : s ∈ ws ∧ ∀ x, r = some x → x ∈ ws := by
  unfold pubW at h
  split at h
  · obtain ⟨rfl, rfl, _⟩ := pubFin_ok h
    exact ⟨by simp, by simp⟩
  · obtain ⟨rfl, rfl, _⟩ := pubFin_ok h
    exact ⟨by simp, by simp⟩
  · simp at h
theorem sv_C {w : World} {A : Option Addr} {ad : Addr} {l : List Int} {c : Nat} {p : Nat × Nat} (hA : 0 < l.length → A = some ad) (hC : Kd.C (Kd.int .u8) w A l.length l) (hc : l.length ≤ c) (hp : p ∈ spans l 0 (-1)) :
    sv ad c p = .slice (some (ad.add p.1)) (seg l p).length (c - p.1) ∧ Kd.C (Kd.int .u8) w (some (ad.add p.1)) (seg l p).length (seg l p) ∧ (seg l p).length ≤ c - p.1 := by
  have hin := spans_in l p hp
  have hl := seg_len hin
  obtain rfl := hA (by omega)
  have := cut_C' hC (show p.1 + (p.2 - p.1) ≤ l.length by omega) hl
  rw [hl]
  exact ⟨rfl, this, by omega⟩
set_option maxHeartbeats 8000000 in
set_option maxRecDepth 100000 in
theorem impl_Pub.walk (A0 : Option Addr) (c0 : Nat) (l : List Int) (lim : Int) (w : World) (hC : Kd.C (Kd.int .u8) w A0 l.length l) (hcp : l.length ≤ c0) (hl : l.length ≤ 2147483647) (h1 : -1 ≤ lim) (h2 : lim ≤ 2147483647) (ea : Addr) (hE : MaxLaid w ea) :
    Calls Tryd.prog 7 #[.slice A0 l.length c0, .int .i64 lim] w (IPost w l (pubW (spans l 0 (-1)) l lim)) := by
  have hcopy := impl_copied.calls A0 c0 l l w hC hcp (by unfold impl_copied.f; simp only [Option.bind_some, List.nil_append, List.length_nil]; rw [if_pos (by omega)])
  have e32 : IntKind.i32.wrap lim = lim := by rw [IntKind.wrap_i32]; omega
  have e64 : wrap64 lim = lim := w64 _ _ rfl (by omega) (by omega)
  have H64 := Aside0.mk e64
  have HE := Aside0.mk hE
  have HL := Aside0.mk hl
  have HCP := Aside0.mk hcopy
  clear hC hcp hl h1 h2 hE hcopy e64
  go_enter Tryd.func7, Tryd.ntmps7
  go_wp2_with fail
  refine HCP.out.mono ?_
  rintro e w1 ⟨v0, rfl, ho, hb⟩
  obtain ⟨Ao, co, eo⟩ := Kd.R_slice ho
  subst eo
  have hrd := (Kd.R_reads' ho).2.2
  have hco := (Kd.R_reads' ho).2.1
  have hcm : co ≤ maxLen := by
    obtain ⟨_, inner, hown, _⟩ := ho
    rcases hown.2 with ⟨h, _⟩ | ⟨g, cap, cur, h, _, _, _, h5, _⟩
    · injection h with x1 x2 x3; rw [x3]; exact Nat.zero_le _
    · injection h with x1 x2 x3; rw [x3]; exact h5
  have hE1 := HE.out.below hb
  obtain ⟨ad, hA, hab⟩ : ∃ ad : Addr, (0 < l.length → Ao = some ad) ∧ ad.block < w1.heap.size := by
    rcases Nat.eq_zero_or_pos l.length with hz | hp
    · exact ⟨⟨0, 0, none⟩, fun h => absurd h (by omega), World.block_lt_of_cell? w1 _ hE1.1⟩
    · have hr := Kd.reads_of_C (enc := Value.int .u8) (d := (0 : Int)) (h1 := fun _ => rfl) hrd
      obtain ⟨ad, e, hc⟩ := hr.2.2 hp
      exact ⟨ad, fun _ => e, by have := World.block_lt_of_cell? w1 _ (hc 0 hp); rwa [add_block] at this⟩
  have hread := ReadPub.walk Ao ad l hA co lim w1 hrd hco HL.out hcm hab ea hE1.1 H64.out
  have HRD := Aside0.mk hread
  have HB := Aside0.mk hb
  have HE1 := Aside0.mk hE1
  have HRC := Aside0.mk hrd
  have HCO := Aside0.mk hco
  have HAA := Aside0.mk hA
  clear ho hb hrd hco hcm hE1 hab hread hA
  cases hR : pubW (spans l 0 (-1)) l lim with
  | ok s r z =>
    obtain ⟨hs, hr⟩ := pubW_ok hR
    have HRR := Aside0.mk hR
    have HSI := Aside0.mk hs
    clear hR hs
    cases r with
    | none =>
      clear hr
      go_wp2_with fail
      refine HRD.out.mono ?_
      rw [HRR.out]
      rintro e w2 ⟨v4, v5, v8, er, rfl, hb2, ⟨rfl, rfl, rfl, rfl⟩⟩
      have HSV := Aside0.mk (sv_C HAA.out (Kd.C_below HRC.out hb2) HCO.out HSI.out)
      have HB2 := Aside0.mk (below_step HB.out hb2)
      clear hb2
      go_wp2_with fail
      try simp only [Exit.inBlock, Exit.then]
      refine bodyPost_ret (results_tmp4 rfl _ _ _) rfl ?_
      rw [HRR.out]
      exact ⟨HB2.out, some (ad.add s.1), co - s.1, none, 0, by rw [← HSV.out.1]; rfl, HSV.out.2.1, HSV.out.2.2, Kd.C_of_reads (enc := Value.int .u8) (d := (0 : Int)) (h1 := fun _ => rfl) ⟨rfl, by simp [segO], fun hn => absurd hn (by simp [segO])⟩, by simp [segO]⟩
    | some r =>
      have HRI := Aside0.mk (hr r rfl)
      clear hr
      go_wp2_with fail
      refine HRD.out.mono ?_
      rw [HRR.out]
      rintro e w2 ⟨v4, v5, v8, er, rfl, hb2, ⟨rfl, rfl, rfl, rfl⟩⟩
      have HSV := Aside0.mk (sv_C HAA.out (Kd.C_below HRC.out hb2) HCO.out HSI.out)
      have HRV := Aside0.mk (sv_C HAA.out (Kd.C_below HRC.out hb2) HCO.out HRI.out)
      have HB2 := Aside0.mk (below_step HB.out hb2)
      clear hb2
      go_wp2_with fail
      try simp only [Exit.inBlock, Exit.then]
      refine bodyPost_ret (results_tmp4 rfl _ _ _) rfl ?_
      rw [HRR.out]
      exact ⟨HB2.out, some (ad.add s.1), co - s.1, some (ad.add r.1), co - r.1, by rw [← HSV.out.1, show (segO l (some r)) = seg l r from rfl, ← HRV.out.1]; rfl, HSV.out.2.1, HSV.out.2.2, HRV.out.2.1, HRV.out.2.2⟩
  | bad =>
    have HRR := Aside0.mk hR
    clear hR
    go_wp2_with fail
    refine HRD.out.mono ?_
    rw [HRR.out]
    rintro e w2 ⟨v4, v5, v8, er, rfl, hb2, ⟨b, s, rfl, hlt, hh⟩⟩
    have hEB := World.block_lt_of_cell? w1 _ HE1.out.2.choose_spec
    have hfl := fault_bad b s ea w2 (HE1.out.below hb2) hh (by omega)
    have HFL := Aside0.mk hfl
    have HB2 := Aside0.mk (below_step HB.out hb2)
    clear hb2 hlt hh hEB hfl
    go_wp2_with fail
    refine HFL.out.mono ?_
    rintro e w3 ⟨rfl, hb3⟩
    have HB3 := Aside0.mk (below_step HB2.out hb3)
    clear hb3
    go_wp2_with fail
    try simp only [Exit.inBlock, Exit.then]
    refine bodyPost_ret (results_tmp4 rfl _ _ _) rfl ?_
    rw [HRR.out]
    exact ⟨HB3.out, rfl⟩
  | big =>
    have HRR := Aside0.mk hR
    clear hR
    go_wp2_with fail
    refine HRD.out.mono ?_
    rw [HRR.out]
    rintro e w2 ⟨v4, v5, v8, er, rfl, hb2, rfl⟩
    have hfl := fault_big ea w2 (HE1.out.below hb2)
    have HFL := Aside0.mk hfl
    have HB2 := Aside0.mk (below_step HB.out hb2)
    clear hb2 hfl
    go_wp2_with fail
    refine HFL.out.mono ?_
    rintro e w3 ⟨rfl, hb3⟩
    have HB3 := Aside0.mk (below_step HB2.out hb3)
    clear hb3
    go_wp2_with fail
    try simp only [Exit.inBlock, Exit.then]
    refine bodyPost_ret (results_tmp4 rfl _ _ _) rfl ?_
    rw [HRR.out]
    exact ⟨HB3.out, rfl⟩
section
variable (A0 : Option Addr) (c0 : Nat) (l : List Int) (lim : Int) (w : World) (hC : Kd.C (Kd.int .u8) w A0 l.length l) (hcp : l.length ≤ c0) (hl : l.length ≤ 2147483647) (h1 : -1 ≤ lim) (h2 : lim ≤ 2147483647) (ea : Addr) (hE : MaxLaid w ea)
include hC hcp hl h1 h2 hE
theorem impl_Pub_ok {p : Nat × Nat} {r : Option (Nat × Nat)} {n : Int} (hR : pubW (spans l 0 (-1)) l lim = .ok p r n) :
    Calls Tryd.prog 7 #[.slice A0 l.length c0, .int .i64 lim] w fun e w' => ∃ A1 c1 A2 c2, e = .returned (.tuple #[.slice A1 (seg l p).length c1, .slice A2 (segO l r).length c2, .int .i64 n, .int .i64 0]) ∧ Below w.heap.size w w' ∧ Kd.C (Kd.int .u8) w' A1 (seg l p).length (seg l p) ∧ Kd.C (Kd.int .u8) w' A2 (segO l r).length (segO l r) := by
  refine (impl_Pub.walk A0 c0 l lim w hC hcp hl h1 h2 ea hE).mono ?_
  rw [hR]
  rintro e w' ⟨hb, A5, c5, A6, c6, rfl, q1, q2, q3, q4⟩
  exact ⟨A5, c5, A6, c6, rfl, hb, q1, q3⟩
theorem impl_Pub_bad (hR : pubW (spans l 0 (-1)) l lim = .bad) :
    Calls Tryd.prog 7 #[.slice A0 l.length c0, .int .i64 lim] w fun e w' => e = .returned (.tuple #[.slice none 0 0, .slice none 0 0, .int .i64 0, .int .i64 1]) ∧ Below w.heap.size w w' := by
  refine (impl_Pub.walk A0 c0 l lim w hC hcp hl h1 h2 ea hE).mono ?_
  rw [hR]
  rintro e w' ⟨hb, rfl⟩
  exact ⟨rfl, hb⟩
theorem impl_Pub_big (hR : pubW (spans l 0 (-1)) l lim = .big) :
    Calls Tryd.prog 7 #[.slice A0 l.length c0, .int .i64 lim] w fun e w' => e = .returned (.tuple #[.slice none 0 0, .slice none 0 0, .int .i64 0, .int .i64 2]) ∧ Below w.heap.size w w' := by
  refine (impl_Pub.walk A0 c0 l lim w hC hcp hl h1 h2 ea hE).mono ?_
  rw [hR]
  rintro e w' ⟨hb, rfl⟩
  exact ⟨rfl, hb⟩
end
theorem son_nil : strOfNums [] = (⟨#[]⟩ : ByteArray) := by
  apply bl_inj
  simp [strOfNums, bl]
end


end Go.Proofs.YtaobajfdnidkfaaDoor.PFnPubBack
