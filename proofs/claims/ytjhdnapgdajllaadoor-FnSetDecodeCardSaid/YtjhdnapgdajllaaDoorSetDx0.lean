/- WALKS: bytes of numbers. -/
import Derived.Test.YtjhdnapgdajllaaDoorProg
import Derived.Below
import Derived.Deep.Draws
import Derived.Deep.AppendLies
import Derived.Maps.AppendAt
import Derived.OwnWalk
import Derived.Laws.BytesArg
import Derived.Laws.MakeOwn
import Derived.Laws.OwnMore
import Derived.Deep.OwnRows
import Derived.Tactics
import Derived.Lib.ConvBytes
import Derived.Laws.Slices
import Derived.WalkKit
import Derived.KernelRfl
import Derived.RowKit3
import Derived.Deep.LoopGhost
import Derived.Deep.QuietTactic
import Derived.BigQuiet
import Derived.WideLaws
import Derived.Deep.DeepCutAuto
import Derived.Deep.CutBlock
import Derived.Deep.RegionHeld3
import Derived.Laws.Rows
import Derived.Lib.AppendStr
import Derived.ArgAppend
import Derived.Laws.IdiomCopy
import Derived.OrdersHeld
import Derived.Laws.BitsLemmas
import Derived.RowKit
import Derived.Test.YtjhdnapgdajllaaDoorWWords
import Derived.Test.YtjhdnapgdajllaaDoorWLast
import Derived.Test.YtjhdnapgdajllaaDoorWTab
import Derived.Test.YtjhdnapgdajllaaDoorWFour
import Derived.Test.YtjhdnapgdajllaaDoorWQPut
import Derived.Test.YtjhdnapgdajllaaDoorWApart
import Derived.Test.YtjhdnapgdajllaaDoorWArr
import Derived.Test.YtjhdnapgdajllaaDoorWZeros
import Derived.Test.YtjhdnapgdajllaaDoorWFoot
import Derived.Test.YtjhdnapgdajllaaDoorWKept
import Derived.Test.YtjhdnapgdajllaaDoorWShare
import Derived.Test.YtjhdnapgdajllaaDoorWN
import Derived.Test.YtjhdnapgdajllaaDoorWFootNe
import Derived.Test.YtjhdnapgdajllaaDoorWAt
import Derived.Test.YtjhdnapgdajllaaDoorWEqStruct
import Derived.Test.YtjhdnapgdajllaaDoorWRepsOne
import Derived.Test.YtjhdnapgdajllaaDoorWInv
import Derived.Test.YtjhdnapgdajllaaDoorWInvWords
import Derived.Test.YtjhdnapgdajllaaDoorWGuard
import Derived.Test.YtjhdnapgdajllaaDoorWNEv
import Derived.Test.YtjhdnapgdajllaaDoorWMore
import Derived.Test.YtjhdnapgdajllaaDoorSetW
import Derived.Test.YtjhdnapgdajllaaDoorShelf
import Derived.Lib.EndianBits
namespace Go.Proofs.YtjhdnapgdajllaaDoor.SetEncW
open Go.RowKit Go.Proofs.YtjhdnapgdajllaaDoorW.PrintWords Go.Proofs.YtjhdnapgdajllaaDoorW.PrintLast Go.Proofs.YtjhdnapgdajllaaDoorW.PrintMore
attribute [local go_sem] max2_int min2_int max_two min_two max_three min_three max_four min_four   -- for this text's walks alone
set_option linter.unusedVariables false
set_option linter.unusedSimpArgs false



open _root_.Go.Proofs.YtjhdnapgdajllaaDoor.SetW
/-- A number's bytes, the least first. -/
def leN (k v : Nat) : List Nat := (Lib.leBytes k v).map UInt8.toNat
theorem leBytes_len : ∀ k v, (Lib.leBytes k v).length = k
  | 0, _ => rfl
  | k + 1, v => by rw [Lib.leBytes, List.length_cons, leBytes_len k]
theorem leN_len (k v : Nat) : (leN k v).length = k := by rw [leN, List.length_map, leBytes_len]
def u8s (l : List Nat) : List Value := l.map (fun n : Nat => Value.int .u8 (n : Int))
theorem u8s_len (l : List Nat) : (u8s l).length = l.length := List.length_map _
theorem byteCells_le (k v : Nat) : Lib.byteCells (Lib.leBytes k v) = u8s (leN k v) := by
  rw [Lib.byteCells, u8s, leN, List.map_map]
  rfl
theorem leN_byte (k v : Nat) : ∀ x ∈ leN k v, x < 256 := by
  intro x hx
  obtain ⟨b, _, rfl⟩ := List.mem_map.1 hx
  exact b.toNat_lt
/-- A row of bytes in a block of its own. -/
def rowB (w : World) (G : Nat) (xs : List Nat) : Prop := w.heap[G]? = some (.cells (u8s xs).toArray 5 (0, 0))
theorem u8s_append (a b : List Nat) : u8s (a ++ b) = u8s a ++ u8s b := List.map_append
section
variable {w : World} {G : Nat} {xs : List Nat}
theorem rowB_cell (hG : rowB w G xs) (j : Nat) (hj : j < xs.length) : w.cell? ⟨G, j, none⟩ = some (.int .u8 (xs[j] : Nat)) := by
  rw [cell_of_row w G j _ _ _ hG]
  simp [u8s, hj]
theorem rowB_free (hG : rowB w G xs) (j : Nat) : w.frozen? ⟨G, j, none⟩ = false := by
  have h : w.heap[G]? = some (.cells (u8s xs).toArray 5 (0, 0)) := hG
  simp [World.frozen?, h]
end
theorem load_le (g : Nat) (w : World) : (Instr.loadAt 94 (.pointer (some ⟨g, 0, none⟩))).run Tryd.prog w = .ok (.agg #[]) w := by kernel_rfl
theorem ne_type {w : World} {x y T T' : Nat} {cs cs' : Array Value} (hx : w.heap[x]? = some (.cells cs T (0, 0))) (hy : w.heap[y]? = some (.cells cs' T' (0, 0))) (h : T ≠ T') : x ≠ y := by
  intro e
  subst e
  rw [hx] at hy
  injection hy with hy
  injection hy with _ hy _
  exact h hy
theorem slice_l8 (B o n c i : Nat) (hi : i ≤ n) (hic : i < c) (W : World) : (Instr.slice 47 (.slice (some ⟨B, o, none⟩) n c) (some (.int .i64 (i : Int))) none none).run Tryd.prog W = .ok (.slice (some ⟨B, o + i, none⟩) (n - i) (c - i)) W := by
  obtain ⟨i0, hi0, hz0⟩ := Option.map_eq_some_iff.1 (show (Tryd.prog.info? 5).map (fun i => (i.zero, i.size, i.bytes)) = some (some (.int .u8 0), 1, 1) by kernel_rfl)
  have hz1 : i0.size = 1 := congrArg (fun x => x.2.1) hz0
  have hel : (Tryd.prog).elem 47 = 5 := by simp [Program.elem, Tryd.underlying47]
  have hu : (Tryd.prog).underlying 47 = some (.slice ((Tryd.prog).elem 47)) := by rw [hel]; exact Tryd.underlying47
  rw [run_slice_l W 47 (some ⟨B, o, none⟩) n c hu .i64 (i : Int) (by omega) (by omega), hel]
  simp [sizeOf, typeInfo, hi0, hz1, sliced, Result.andThen, Addr.add]
  rw [if_neg (by omega)]
  by_cases h : i = 0
  · rw [if_pos h, h, Nat.add_zero]
  · rw [if_neg h]
def recN (b : Nat) (bs : List Nat) (h : Int) : List Nat := leN 8 b ++ (bs.flatMap (leN 8) ++ leN 2 h.toNat)
theorem flat_len : ∀ bs : List Nat, (bs.flatMap (leN 8)).length = 8 * bs.length
  | [] => rfl
  | z :: bs => by rw [List.flatMap_cons, List.length_append, leN_len, flat_len bs, List.length_cons]; omega
theorem recN_len {b : Nat} {bs : List Nat} {h : Int} (hl : bs.length = 32) : (recN b bs h).length = 266 := by
  rw [recN, List.length_append, List.length_append, leN_len, flat_len, leN_len, hl]
theorem below_two {b : Nat} {u v w : World} (h : Below b u v) (k : Below b v w) : Below b u w := ⟨k.os.trans h.os, k.tape.trans h.tape, k.output.trans h.output, Nat.le_trans h.size k.size, fun i hi => (k.block i hi).trans (h.block i hi)⟩
theorem below_cut {b c : Nat} {w w' : World} (h : Below b w w') (hc : c ≤ b) : Below c w w' := ⟨h.os, h.tape, h.output, h.size, fun k hk => h.block k (Nat.lt_of_lt_of_le hk hc)⟩

end Go.Proofs.YtjhdnapgdajllaaDoor.SetEncW
