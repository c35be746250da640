/- WALKS: two sets sorted by their sizes, put together. -/
import Derived.Test.YtjhdnapgdajllaaDoorProg
import Derived.Below
import Derived.Deep.Draws
import Derived.Deep.AppendLies
import Derived.Maps.AppendAt
import Derived.OwnWalk
import Derived.Laws.BytesArg
import Derived.Laws.MakeOwn
import Derived.Laws.OwnMore
import Derived.Deep.OwnRows
import Derived.Tactics
import Derived.Lib.ConvBytes
import Derived.Laws.Slices
import Derived.WalkKit
import Derived.KernelRfl
import Derived.RowKit3
import Derived.Deep.LoopGhost
import Derived.Deep.QuietTactic
import Derived.BigQuiet
import Derived.WideLaws
import Derived.Deep.DeepCutAuto
import Derived.Deep.CutBlock
import Derived.Deep.RegionHeld3
import Derived.Laws.Rows
import Derived.Lib.AppendStr
import Derived.ArgAppend
import Derived.Laws.IdiomCopy
import Derived.OrdersHeld
import Derived.Laws.BitsLemmas
import Derived.RowKit
import Derived.Test.YtjhdnapgdajllaaDoorWWords
import Derived.Test.YtjhdnapgdajllaaDoorWLast
import Derived.Test.YtjhdnapgdajllaaDoorWTab
import Derived.Test.YtjhdnapgdajllaaDoorWFour
import Derived.Test.YtjhdnapgdajllaaDoorWQPut
import Derived.Test.YtjhdnapgdajllaaDoorWApart
import Derived.Test.YtjhdnapgdajllaaDoorWArr
import Derived.Test.YtjhdnapgdajllaaDoorWZeros
import Derived.Test.YtjhdnapgdajllaaDoorWFoot
import Derived.Test.YtjhdnapgdajllaaDoorWKept
import Derived.Test.YtjhdnapgdajllaaDoorWShare
import Derived.Test.YtjhdnapgdajllaaDoorWN
import Derived.Test.YtjhdnapgdajllaaDoorWFootNe
import Derived.Test.YtjhdnapgdajllaaDoorWAt
import Derived.Test.YtjhdnapgdajllaaDoorWEqStruct
import Derived.Test.YtjhdnapgdajllaaDoorWRepsOne
import Derived.Test.YtjhdnapgdajllaaDoorWInv
import Derived.Test.YtjhdnapgdajllaaDoorWInvWords
import Derived.Test.YtjhdnapgdajllaaDoorWGuard
import Derived.Test.YtjhdnapgdajllaaDoorWNEv
import Derived.Test.YtjhdnapgdajllaaDoorWMore
import Derived.Test.YtjhdnapgdajllaaDoorSetUnionW
namespace Go.Proofs.YtjhdnapgdajllaaDoor.SetUnionV
open Go.RowKit Go.Proofs.YtjhdnapgdajllaaDoorW.PrintWords Go.Proofs.YtjhdnapgdajllaaDoorW.PrintLast Go.Proofs.YtjhdnapgdajllaaDoorW.PrintMore
attribute [local go_sem] max2_int min2_int max_two min_two max_three min_three max_four min_four   -- for this text's walks alone
set_option linter.unusedVariables false
set_option linter.unusedSimpArgs false



open _root_.Go.Proofs.YtjhdnapgdajllaaDoor.SetW _root_.Go.Proofs.YtjhdnapgdajllaaDoor.SetSpecW _root_.Go.Proofs.YtjhdnapgdajllaaDoor.SetCloneW _root_.Go.Proofs.YtjhdnapgdajllaaDoor.SetUnionW
theorem heap_drewN (w : World) (n k : Nat) : (w.drewN n).heap[k]? = w.heap[k]? := by
  rcases Nat.lt_or_ge k w.heap.size with h | h
  · exact (pw_below_drewN (Below.refl _ _) n).block k h
  · have e : (w.drewN n).heap = w.heap := by
      induction n with
      | zero => rfl
      | succ n ih => exact ih
    rw [e]
theorem chg_drewN (w : World) (n : Nat) : Chg [] w (w.drewN n) := chg_below' (pw_below_drewN (Below.refl _ _) n)
def lastU : Value → Nat
  | .int _ z => z.toNat
  | _ => 0
theorem not_set2 {w : World} {SS : Nat} {t : Tr} {L : List Nat} (hS : SetAt w SS t L) {B : Nat} {cs : Array Value} (hB : w.heap[B]? = some (.cells cs 63 (0, 0))) : B ∉ SS :: t.bl := not_set hS hB
theorem run_at2 (AB j : Nat) (hj : j < 2) (w : World) : True := trivial
set_option maxHeartbeats 16000000 in
set_option maxRecDepth 100000 in
theorem ins2_calls (SA SB AB : Nat) (ta tb : Tr) (La Lb : List Nat) (w : World) (hA : SetAt w SA ta La) (hB : SetAt w SB tb Lb) (hS : w.heap[AB]? = some (.cells #[.pointer (some ⟨SA, 0, none⟩), .pointer (some ⟨SB, 0, none⟩)] 63 (0, 0))) (q : Bool) (hq : q = decide (La.length < Lb.length)) :
    Calls Tryd.prog 89 #[.slice (some ⟨AB, 0, none⟩) 2 2, .int .i64 0, .int .i64 2, .func (.func 66) #[] #[]] w fun e w' => e = .returned (.tuple #[]) ∧ w'.heap[AB]? = some (.cells (if q = true then #[.pointer (some ⟨SB, 0, none⟩), .pointer (some ⟨SA, 0, none⟩)] else #[.pointer (some ⟨SA, 0, none⟩), .pointer (some ⟨SB, 0, none⟩)]) 63 (0, 0)) ∧ Chg [AB] w w' := by
  have HS := Aside0.mk (And.intro hA (And.intro hB (And.intro hS hq)))
  obtain ⟨C, hC⟩ : ∃ C : Array Value, C = (if q = true then #[.pointer (some ⟨SB, 0, none⟩), .pointer (some ⟨SA, 0, none⟩)] else #[.pointer (some ⟨SA, 0, none⟩), .pointer (some ⟨SB, 0, none⟩)]) := ⟨_, rfl⟩
  rw [← hC]
  have HCC := Aside0.mk hC
  clear hA hB hS hq hC
  go_enter Tryd.func89, Tryd.ntmps89
  go_wp2_with fail
  go_loopw [8] (fun v8 wx => ∃ k : Nat, v8 = .int .i64 (k : Int) ∧ Aside0 (k = 1 ∨ k = 2) ∧ Aside0 (wx.heap[AB]? = some (.cells (if q = true ∧ k = 2 then #[.pointer (some ⟨SB, 0, none⟩), .pointer (some ⟨SA, 0, none⟩)] else #[.pointer (some ⟨SA, 0, none⟩), .pointer (some ⟨SB, 0, none⟩)]) 63 (0, 0)) ∧ Chg [AB] w wx)) (fun v8 _ => Road.leftOf 2 v8)
  case atStart => exact ⟨1, rfl, ⟨.inl rfl⟩, ⟨by rw [if_neg (by omega)]; exact HS.out.2.2.1, Chg.refl _ _⟩⟩
  case round =>
    obtain ⟨k, rfl, HK, HC⟩ := hrel
    rcases HK.out with rfl | rfl
    · go_wp2_with fail
      go_loopw [9] (fun v9 wx => ∃ j : Nat, v9 = .int .i64 (j : Int) ∧ Aside0 (j = 1 ∨ (j = 0 ∧ q = true)) ∧ Aside0 (wx.heap[AB]? = some (.cells (if j = 0 then #[.pointer (some ⟨SB, 0, none⟩), .pointer (some ⟨SA, 0, none⟩)] else #[.pointer (some ⟨SA, 0, none⟩), .pointer (some ⟨SB, 0, none⟩)]) 63 (0, 0)) ∧ Chg [AB] w wx)) (fun v9 _ => lastU v9)
      case atStart => exact ⟨1, rfl, ⟨.inl rfl⟩, ⟨by have := HC.out.1; rw [if_neg (by omega)] at this; rw [if_neg (by omega)]; exact this, HC.out.2⟩⟩
      case round =>
        obtain ⟨j, rfl, HJ, HD⟩ := hrel
        rcases HJ.out with rfl | ⟨rfl, hq1⟩
        · have hw := HD.out.1
          rw [if_neg (by omega)] at hw
          have HW := Aside0.mk hw
          have cA : wr.cell? ⟨AB, 0, none⟩ = some (.pointer (some ⟨SA, 0, none⟩)) := cell_of_row wr AB 0 _ _ _ hw
          have cB : wr.cell? ⟨AB, 1, none⟩ = some (.pointer (some ⟨SB, 0, none⟩)) := cell_of_row wr AB 1 _ _ _ hw
          have hnA := not_set2 HS.out.1 HS.out.2.2.1
          have hnB := not_set2 HS.out.2.1 HS.out.2.2.1
          have sA : SetAt wr SA ta La := HS.out.1.keep HD.out.2 (fun x hx e => hnA (List.mem_singleton.1 e ▸ hx))
          have sB : SetAt wr SB tb Lb := HS.out.2.1.keep HD.out.2 (fun x hx e => hnB (List.mem_singleton.1 e ▸ hx))
          obtain ⟨c, hc⟩ : ∃ c, c = (if Lb.length < La.length then (1 : Int) else if La.length < Lb.length then -1 else 0) := ⟨_, rfl⟩
          have hcmp : ∀ n, Calls Tryd.prog 66 #[.pointer (some ⟨SB, 0, none⟩), .pointer (some ⟨SA, 0, none⟩)] (wr.drewN n) fun e w' => e = .returned (.int .i64 c) ∧ w' = wr.drewN n := fun n => by
            rw [hc]
            exact cmpU_calls SB SA tb ta Lb La _ (sB.keep (chg_below' (pw_below_drewN (Below.refl _ _) n)) (by simp)) (sA.keep (chg_below' (pw_below_drewN (Below.refl _ _) n)) (by simp))
          have hcq : decide (c < 0) = q := by
            rw [hc, HS.out.2.2.2]
            rcases Nat.lt_trichotomy La.length Lb.length with h | h | h
            · rw [if_neg (by omega), if_pos h, decide_eq_true h]; rfl
            · rw [if_neg (by omega), if_neg (by omega), decide_eq_false (by omega), decide_eq_false (by omega)]
            · rw [if_pos h, decide_eq_false (by omega), decide_eq_false (by omega)]
          clear hw hnA hnB sA sB hc
          cases q with
          | false =>
            go_wp2_with fail
            go_quiet (first | (go_at_call 66; refine Calls.quiet_of_same (hcmp _)))
            go_wp2_with fail
            go_roundw
            case rel => exact ⟨2, rfl, ⟨.inr rfl⟩, ⟨by rw [if_neg (by simp)]; exact (heap_drewN wr _ AB).trans HW.out, HD.out.2.trans (G := []) (chg_drewN wr _) (fun x h => h) (fun x h _ => absurd h (by simp))⟩⟩
            case measure => decide
          | true =>
            go_wp2_with fail
            go_quiet (first | (go_at_call 66; refine Calls.quiet_of_same (hcmp _)))
            go_wp2_with fail
            have h5 := (heap_drewN wr nq AB).trans HW.out
            have c5 := HD.out.2.trans (G := []) (chg_drewN wr nq) (fun x h => h) (fun x h _ => absurd h (by simp))
            generalize wr.drewN nq = w5 at h5 c5 ⊢
            have HW5 := Aside0.mk (And.intro h5 c5)
            clear h5 c5 cA cB hcmp hcq HW
            have w0 : wrap64 0 = 0 := Road.w64 0 0 rfl (by decide) (by decide)
            refine start_ (n := 18) (S := fun w' => w'.heap[AB]? = some (.cells #[.pointer (some ⟨SA, 0, none⟩), .pointer (some ⟨SB, 0, none⟩)] 63 (0, 0))) (ds := [15, 17]) #[false, false, false, false, false, false, false, false, false, false, false, false, false, false, false, false, false, false] (by kernel_rfl) rfl rfl HW5.out.1 (fun hHeld => ?_)
            refine pure_ (i := 0) (N := some 37) (v := ?_) (a' := ?_) #[true, false, false, false, false, false, false, false, false, false, false, false, false, false, false, false, false, false] rfl rfl (by kernel_rfl) (fun _ _ _ h => h) (Or.inl ⟨by rfl, ?_⟩) ?_ ?_
            rotate_left
            · intro w'
              go_simp
              with_reducible rfl
            rotate_left
            · simp only [Act.put, List.setIfInBounds_toArray, List.set_cons_zero, List.set_cons_succ, i64_w, i32_w]
              rfl
            refine pure_ (i := 1) (N := some 38) (v := ?_) (a' := ?_) #[true, true, false, false, false, false, false, false, false, false, false, false, false, false, false, false, false, false] rfl rfl (by kernel_rfl) (fun _ _ _ h => h) (Or.inl ⟨by rfl, ?_⟩) ?_ ?_
            rotate_left
            · intro w'
              go_simp
              with_reducible rfl
            rotate_left
            · simp only [Act.put, List.setIfInBounds_toArray, List.set_cons_zero, List.set_cons_succ, i64_w, i32_w]
              rfl
            refine pure_ (i := 2) (N := some 39) (v := ?_) (a' := ?_) #[true, true, true, false, false, false, false, false, false, false, false, false, false, false, false, false, false, false] rfl rfl (by kernel_rfl) (fun _ _ _ h => h) (Or.inl ⟨by rfl, ?_⟩) ?_ ?_
            rotate_left
            · intro w'
              go_simp
              with_reducible rfl
            rotate_left
            · simp only [Act.put, List.setIfInBounds_toArray, List.set_cons_zero, List.set_cons_succ, i64_w, i32_w]
              rfl
            refine pure_ (i := 3) (N := some 40) (v := ?_) (a' := ?_) #[true, true, true, true, false, false, false, false, false, false, false, false, false, false, false, false, false, false] rfl rfl (by kernel_rfl) (fun _ _ _ h => h) (Or.inl ⟨by rfl, ?_⟩) ?_ ?_
            rotate_left
            · intro w'
              go_simp
              with_reducible rfl
            rotate_left
            · simp only [Act.put, List.setIfInBounds_toArray, List.set_cons_zero, List.set_cons_succ, i64_w, i32_w]
              rfl
            refine pure_ (i := 4) (N := some 41) (v := ?_) (a' := ?_) #[true, true, true, true, true, false, false, false, false, false, false, false, false, false, false, false, false, false] rfl rfl (by kernel_rfl) (fun _ _ _ h => h) (Or.inl ⟨by rfl, ?_⟩) ?_ ?_
            rotate_left
            · intro w'
              go_simp
              with_reducible rfl
            rotate_left
            · simp only [Act.put, List.setIfInBounds_toArray, List.set_cons_zero, List.set_cons_succ, i64_w, i32_w]
              rfl
            refine pure_ (i := 5) (N := some 42) (v := ?_) (a' := ?_) #[true, true, true, true, true, true, false, false, false, false, false, false, false, false, false, false, false, false] rfl rfl (by kernel_rfl) (fun _ _ _ h => h) (Or.inl ⟨by rfl, ?_⟩) ?_ ?_
            rotate_left
            · intro w'
              go_simp
              with_reducible rfl
            rotate_left
            · simp only [Act.put, List.setIfInBounds_toArray, List.set_cons_zero, List.set_cons_succ, i64_w, i32_w]
              rfl
            refine pure_ (i := 6) (N := some 43) (v := ?_) (a' := ?_) #[true, true, true, true, true, true, true, false, false, false, false, false, false, false, false, false, false, false] rfl rfl (by kernel_rfl) (fun _ _ _ h => h) (Or.inl ⟨by rfl, ?_⟩) ?_ ?_
            rotate_left
            · intro w'
              go_simp
              with_reducible rfl
            rotate_left
            · simp only [Act.put, List.setIfInBounds_toArray, List.set_cons_zero, List.set_cons_succ, i64_w, i32_w]
              rfl
            refine pure_ (i := 7) (N := some 44) (v := ?_) (a' := ?_) #[true, true, true, true, true, true, true, true, false, false, false, false, false, false, false, false, false, false] rfl rfl (by kernel_rfl) (fun _ _ _ h => h) (Or.inl ⟨by rfl, ?_⟩) ?_ ?_
            rotate_left
            · intro w'
              go_simp
              with_reducible rfl
            rotate_left
            · simp only [Act.put, List.setIfInBounds_toArray, List.set_cons_zero, List.set_cons_succ, i64_w, i32_w]
              rfl
            refine pure_ (i := 8) (N := some 45) (v := ?_) (a' := ?_) #[true, true, true, true, true, true, true, true, true, false, false, false, false, false, false, false, false, false] rfl rfl (by kernel_rfl) (fun _ _ _ h => h) (Or.inl ⟨by rfl, ?_⟩) ?_ ?_
            rotate_left
            · intro w'
              go_simp
              with_reducible rfl
            rotate_left
            · simp only [Act.put, List.setIfInBounds_toArray, List.set_cons_zero, List.set_cons_succ, i64_w, i32_w]
              rfl
            refine take_ (i := 9) (N := some 46) (v := ?_) (a' := ?_) #[true, true, true, true, true, true, true, true, true, true, false, false, false, false, false, false, false, false] rfl rfl (by kernel_rfl) (fun _ _ _ h => h) (Or.inl ⟨by rfl, ?_⟩) hHeld ?_ ?_
            rotate_left
            · intro w' hS'
              have cA : w'.cell? ⟨AB, 0, none⟩ = some (.pointer (some ⟨SA, 0, none⟩)) := cell_of_row w' AB 0 _ _ _ hS'
              have cB : w'.cell? ⟨AB, 1, none⟩ = some (.pointer (some ⟨SB, 0, none⟩)) := cell_of_row w' AB 1 _ _ _ hS'
              go_simp
              with_reducible rfl
            rotate_left
            · simp only [Act.put, List.setIfInBounds_toArray, List.set_cons_zero, List.set_cons_succ, i64_w, i32_w]
              rfl
            refine pure_ (i := 10) (N := some 47) (v := ?_) (a' := ?_) #[true, true, true, true, true, true, true, true, true, true, true, false, false, false, false, false, false, false] rfl rfl (by kernel_rfl) (fun _ _ _ h => h) (Or.inl ⟨by rfl, ?_⟩) ?_ ?_
            rotate_left
            · intro w'
              go_simp
              with_reducible rfl
            rotate_left
            · simp only [Act.put, List.setIfInBounds_toArray, List.set_cons_zero, List.set_cons_succ, i64_w, i32_w]
              rfl
            refine pure_ (i := 11) (N := some 48) (v := ?_) (a' := ?_) #[true, true, true, true, true, true, true, true, true, true, true, true, false, false, false, false, false, false] rfl rfl (by kernel_rfl) (fun _ _ _ h => h) (Or.inl ⟨by rfl, ?_⟩) ?_ ?_
            rotate_left
            · intro w'
              go_simp
              with_reducible rfl
            rotate_left
            · simp only [Act.put, List.setIfInBounds_toArray, List.set_cons_zero, List.set_cons_succ, i64_w, i32_w]
              rfl
            refine pure_ (i := 12) (N := some 49) (v := ?_) (a' := ?_) #[true, true, true, true, true, true, true, true, true, true, true, true, true, false, false, false, false, false] rfl rfl (by kernel_rfl) (fun _ _ _ h => h) (Or.inl ⟨by rfl, ?_⟩) ?_ ?_
            rotate_left
            · intro w'
              go_simp
              with_reducible rfl
            rotate_left
            · simp only [Act.put, List.setIfInBounds_toArray, List.set_cons_zero, List.set_cons_succ, i64_w, i32_w]
              rfl
            refine take_ (i := 13) (N := some 50) (v := ?_) (a' := ?_) #[true, true, true, true, true, true, true, true, true, true, true, true, true, true, false, false, false, false] rfl rfl (by kernel_rfl) (fun _ _ _ h => h) (Or.inl ⟨by rfl, ?_⟩) hHeld ?_ ?_
            rotate_left
            · intro w' hS'
              have cA : w'.cell? ⟨AB, 0, none⟩ = some (.pointer (some ⟨SA, 0, none⟩)) := cell_of_row w' AB 0 _ _ _ hS'
              have cB : w'.cell? ⟨AB, 1, none⟩ = some (.pointer (some ⟨SB, 0, none⟩)) := cell_of_row w' AB 1 _ _ _ hS'
              go_simp
              with_reducible rfl
            rotate_left
            · simp only [Act.put, List.setIfInBounds_toArray, List.set_cons_zero, List.set_cons_succ, i64_w, i32_w]
              rfl
            refine pure_ (i := 14) (N := some 51) (v := ?_) (a' := ?_) #[true, true, true, true, true, true, true, true, true, true, true, true, true, true, true, false, false, false] rfl rfl (by kernel_rfl) (fun _ _ _ h => h) (Or.inl ⟨by rfl, ?_⟩) ?_ ?_
            rotate_left
            · intro w'
              go_simp
              with_reducible rfl
            rotate_left
            · simp only [Act.put, List.setIfInBounds_toArray, List.set_cons_zero, List.set_cons_succ, i64_w, i32_w]
              rfl
            obtain ⟨h5, c5⟩ := HW5.out
            have c1 : w5.cell? ⟨AB, 1, none⟩ = some (.pointer (some ⟨SB, 0, none⟩)) := cell_of_row w5 AB 1 _ _ _ h5
            have f1 : w5.frozen? ⟨AB, 1, none⟩ = false := by simp [World.frozen?, h5]
            have E1 : w5.setCell ⟨AB, 1, none⟩ (.pointer (some ⟨SA, 0, none⟩)) = w5.setRow AB #[.pointer (some ⟨SA, 0, none⟩), .pointer (some ⟨SA, 0, none⟩)] := setCell_eq_setRow w5 AB 1 _ 63 (0, 0) (.pointer (some ⟨SA, 0, none⟩)) h5
            clear h5 c5
            refine last_ (i := 15) (N := none) #[true, true, true, true, true, true, true, true, true, true, true, true, true, true, true, true, false, false] rfl rfl (by kernel_rfl) (by decide) (fun K hK => ?_)
            refine skip_ (w1 := ?_) (by rfl) rfl ?_ ?_
            rotate_left
            · go_simp
              rfl
            refine hK.out _ _ ?_
            clear hK K
            obtain ⟨h5, c5⟩ := HW5.out
            have h6 : ((w5.setRow AB #[.pointer (some ⟨SA, 0, none⟩), .pointer (some ⟨SA, 0, none⟩)]).drew).heap[AB]? = some (.cells #[.pointer (some ⟨SA, 0, none⟩), .pointer (some ⟨SA, 0, none⟩)] 63 (0, 0)) := setRow_heap w5 AB _ _ _ _ h5
            have c6 := (c5.trans (Chg.row w5 AB #[.pointer (some ⟨SA, 0, none⟩), .pointer (some ⟨SA, 0, none⟩)]) (fun x h => h) (fun x h _ => h)).trans (G := []) (Chg_drew _) (fun x h => h) (fun x h _ => absurd h (by simp))
            generalize (w5.setRow AB #[.pointer (some ⟨SA, 0, none⟩), .pointer (some ⟨SA, 0, none⟩)]).drew = w6 at h6 c6 ⊢
            have c0 : w6.cell? ⟨AB, 0, none⟩ = some (.pointer (some ⟨SA, 0, none⟩)) := cell_of_row w6 AB 0 _ _ _ h6
            have f0 : w6.frozen? ⟨AB, 0, none⟩ = false := by simp [World.frozen?, h6]
            have E2 : w6.setCell ⟨AB, 0, none⟩ (.pointer (some ⟨SB, 0, none⟩)) = w6.setRow AB #[.pointer (some ⟨SB, 0, none⟩), .pointer (some ⟨SA, 0, none⟩)] := setCell_eq_setRow w6 AB 0 _ 63 (0, 0) (.pointer (some ⟨SB, 0, none⟩)) h6
            have HW6 := Aside0.mk (And.intro h6 c6)
            clear h5 c5 h6 c6 E1 c1 f1
            refine pure_ (i := 16) (N := some 52) (v := ?_) (a' := ?_) #[true, true, true, true, true, true, true, true, true, true, true, true, true, true, true, true, true, false] rfl rfl (by kernel_rfl) (fun _ _ _ h => h) (Or.inl ⟨by rfl, ?_⟩) ?_ ?_
            rotate_left
            · intro w'
              go_simp
              with_reducible rfl
            rotate_left
            · simp only [Act.put, List.setIfInBounds_toArray, List.set_cons_zero, List.set_cons_succ, i64_w, i32_w]
              rfl
            refine last_ (i := 17) (N := none) #[true, true, true, true, true, true, true, true, true, true, true, true, true, true, true, true, true, true] rfl rfl (by kernel_rfl) (by decide) (fun K hK => ?_)
            refine skip_ (w1 := ?_) (by rfl) rfl ?_ ?_
            rotate_left
            · go_simp
              rfl
            refine hK.out _ _ ?_
            clear hK K
            have c7 := HW6.out.2.trans (Chg.row w6 AB #[.pointer (some ⟨SB, 0, none⟩), .pointer (some ⟨SA, 0, none⟩)]) (fun x h => h) (fun x h _ => h)
            have h7 : (w6.setRow AB #[.pointer (some ⟨SB, 0, none⟩), .pointer (some ⟨SA, 0, none⟩)]).heap[AB]? = some (.cells #[.pointer (some ⟨SB, 0, none⟩), .pointer (some ⟨SA, 0, none⟩)] 63 (0, 0)) := setRow_heap w6 AB _ _ _ _ HW6.out.1
            generalize w6.setRow AB #[.pointer (some ⟨SB, 0, none⟩), .pointer (some ⟨SA, 0, none⟩)] = w7 at h7 c7 ⊢
            have HW7 := Aside0.mk (And.intro h7 c7)
            clear h7 c7 E2 c0 f0 HW6
            refine done_ (by kernel_rfl) ?_
            go_wp2_with fail
            go_roundw
            case rel => exact ⟨0, rfl, ⟨.inr ⟨rfl, by first | trivial | rfl⟩⟩, ⟨by rw [if_pos rfl]; exact HW7.out.1, HW7.out.2⟩⟩
            case measure => decide
        · have hw := HD.out.1
          rw [if_pos rfl] at hw
          have HW := Aside0.mk hw
          clear hw
          go_wp2_with fail
          go_quiet (fail)
          go_wp2_with fail
          go_roundw
          case rel => exact ⟨2, rfl, ⟨.inr rfl⟩, ⟨by rw [if_pos ⟨hq1, rfl⟩]; exact (heap_drewN wr _ AB).trans HW.out, HD.out.2.trans (G := []) (chg_drewN wr _) (fun x h => h) (fun x h _ => absurd h (by simp))⟩⟩
          case measure => decide
    · go_wp2_with fail
      refine bodyPost_end (results_none rfl _ _ _) rfl ?_
      refine ⟨rfl, ?_, HC.out.2⟩
      have := HC.out.1
      rw [HCC.out]
      simpa using this
set_option maxHeartbeats 8000000 in
set_option maxRecDepth 100000 in
theorem pdq2_calls (SA SB AB : Nat) (ta tb : Tr) (La Lb : List Nat) (v : Int) (w : World) (hA : SetAt w SA ta La) (hB : SetAt w SB tb Lb) (hS : w.heap[AB]? = some (.cells #[.pointer (some ⟨SA, 0, none⟩), .pointer (some ⟨SB, 0, none⟩)] 63 (0, 0))) (q : Bool) (hq : q = decide (La.length < Lb.length)) :
    Calls Tryd.prog 79 #[.slice (some ⟨AB, 0, none⟩) 2 2, .int .i64 0, .int .i64 2, .int .i64 v, .func (.func 66) #[] #[]] w fun e w' => e = .returned (.tuple #[]) ∧ w'.heap[AB]? = some (.cells (if q = true then #[.pointer (some ⟨SB, 0, none⟩), .pointer (some ⟨SA, 0, none⟩)] else #[.pointer (some ⟨SA, 0, none⟩), .pointer (some ⟨SB, 0, none⟩)]) 63 (0, 0)) ∧ Chg [AB] w w' := by
  have HI := Aside0.mk (ins2_calls SA SB AB ta tb La Lb w hA hB hS q hq)
  obtain ⟨C, hC⟩ : ∃ C : Array Value, C = (if q = true then #[.pointer (some ⟨SB, 0, none⟩), .pointer (some ⟨SA, 0, none⟩)] else #[.pointer (some ⟨SA, 0, none⟩), .pointer (some ⟨SB, 0, none⟩)]) := ⟨_, rfl⟩
  rw [← hC]
  rw [← hC] at HI
  clear hA hB hS hq hC
  go_enter Tryd.func79, Tryd.ntmps79
  go_wp2_with fail
  go_loopw [1, 2] (fun v1 v2 wx => v1 = .int .i64 0 ∧ v2 = .int .i64 2 ∧ wx = w) (fun v1 _ _ => lastU v1)
  case atStart => exact ⟨rfl, rfl, rfl⟩
  case round =>
    obtain ⟨rfl, rfl, rfl⟩ := hrel
    go_wp2_with fail
    refine HI.out.mono ?_
    rintro e w1 ⟨rfl, h1, c1⟩
    have H1 := Aside0.mk (And.intro h1 c1)
    clear h1 c1
    go_wp2_with fail
    refine bodyPost_ret (results_none rfl _ _ _) rfl ?_
    exact ⟨rfl, H1.out.1, H1.out.2⟩
set_option maxHeartbeats 8000000 in
set_option maxRecDepth 100000 in
theorem sort2_calls (SA SB AB : Nat) (ta tb : Tr) (La Lb : List Nat) (w : World) (hA : SetAt w SA ta La) (hB : SetAt w SB tb Lb) (hS : w.heap[AB]? = some (.cells #[.pointer (some ⟨SA, 0, none⟩), .pointer (some ⟨SB, 0, none⟩)] 63 (0, 0))) (q : Bool) (hq : q = decide (La.length < Lb.length)) :
    Calls Tryd.prog 65 #[.slice (some ⟨AB, 0, none⟩) 2 2, .func (.func 66) #[] #[]] w fun e w' => e = .returned (.tuple #[]) ∧ w'.heap[AB]? = some (.cells (if q = true then #[.pointer (some ⟨SB, 0, none⟩), .pointer (some ⟨SA, 0, none⟩)] else #[.pointer (some ⟨SA, 0, none⟩), .pointer (some ⟨SB, 0, none⟩)]) 63 (0, 0)) ∧ Chg [AB] w w' := by
  have HI := Aside0.mk (fun v => pdq2_calls SA SB AB ta tb La Lb v w hA hB hS q hq)
  obtain ⟨C, hC⟩ : ∃ C : Array Value, C = (if q = true then #[.pointer (some ⟨SB, 0, none⟩), .pointer (some ⟨SA, 0, none⟩)] else #[.pointer (some ⟨SA, 0, none⟩), .pointer (some ⟨SB, 0, none⟩)]) := ⟨_, rfl⟩
  rw [← hC]
  rw [← hC] at HI
  clear hA hB hS hq hC
  have u1 : IntKind.u64.wrap 2 = 2 := by decide
  go_enter Tryd.func65, Tryd.ntmps65
  go_wp2_with fail
  refine (len_calls 2 w (by decide) (by decide)).mono ?_
  rintro e w1 ⟨⟨v, rfl⟩, rfl⟩
  go_wp2_with fail
  refine (HI.out v).mono ?_
  rintro e w2 ⟨rfl, h1, c1⟩
  have H1 := Aside0.mk (And.intro h1 c1)
  clear h1 c1
  go_wp2_with fail
  refine bodyPost_end (results_none rfl _ _ _) rfl ?_
  exact ⟨rfl, H1.out.1, H1.out.2⟩
set_option maxHeartbeats 16000000 in
set_option maxRecDepth 100000 in
theorem UnionF_calls (SA SB AB : Nat) (ta tb : Tr) (La Lb : List Nat) (w : World) (hA : SetAt w SA ta La) (hB : SetAt w SB tb Lb) (hS : w.heap[AB]? = some (.cells #[.pointer (some ⟨SA, 0, none⟩), .pointer (some ⟨SB, 0, none⟩)] 63 (0, 0))) (hl : La.length + Lb.length ≤ 8999) (hT : TabAt 3 Lib.deBruijn64tab w) (hg : 3 ≠ AB) :
    Calls Tryd.prog 47 #[.slice (some ⟨AB, 0, none⟩) 2 2] w fun e w' => ∃ S' t', e = .returned (.pointer (some ⟨S', 0, none⟩)) ∧ SetAt w' S' t' (unL La Lb) ∧ Chg [AB] w w' := by
  obtain ⟨q, hq⟩ : ∃ q, q = decide (La.length < Lb.length) := ⟨_, rfl⟩
  have HI := Aside0.mk (sort2_calls SA SB AB ta tb La Lb w hA hB hS q hq)
  -- the two, as they stand behind the sort
  obtain ⟨S1, t1, L1, S2, t2, L2, h1, h2, hC, hu, hl2, hs1⟩ : ∃ S1 t1 L1 S2 t2 L2, SetAt w S1 t1 L1 ∧ SetAt w S2 t2 L2 ∧ (if q = true then #[.pointer (some ⟨SB, 0, none⟩), .pointer (some ⟨SA, 0, none⟩)] else #[.pointer (some ⟨SA, 0, none⟩), .pointer (some ⟨SB, 0, none⟩)] : Array Value) = #[.pointer (some ⟨S1, 0, none⟩), .pointer (some ⟨S2, 0, none⟩)] ∧ unL L1 L2 = unL La Lb ∧ L1.length + L2.length ≤ 8999 ∧ L1.Pairwise (· < ·) := by
    cases q with
    | true => exact ⟨SB, tb, Lb, SA, ta, La, hB, hA, rfl, unL_comm hB.rep.sorted hA.rep.sorted, by omega, hB.rep.sorted⟩
    | false => exact ⟨SA, ta, La, SB, tb, Lb, hA, hB, rfl, rfl, hl, hA.rep.sorted⟩
  rw [hC] at HI
  rw [← hu]
  have hn1 := not_set h1 hS
  have hn2 := not_set h2 hS
  have HH := Aside0.mk (And.intro h1 (And.intro h2 (And.intro hn1 (And.intro hn2 (And.intro hl2 (And.intro hT hg))))))
  clear hA hB hS hl hT hq hC hu h1 h2 hn1 hn2 hl2 hs1 hg
  go_enter Tryd.func47, Tryd.ntmps47
  go_wp2_with fail
  refine HI.out.mono ?_
  rintro e w1 ⟨rfl, k1, c1⟩
  obtain ⟨h1, h2, hn1, hn2, hl2, hT, hg⟩ := HH.out
  have s1 : SetAt w1 S1 t1 L1 := h1.keep c1 (fun x hx e => hn1 (List.mem_singleton.1 e ▸ hx))
  have s2 : SetAt w1 S2 t2 L2 := h2.keep c1 (fun x hx e => hn2 (List.mem_singleton.1 e ▸ hx))
  have T1 : TabAt 3 Lib.deBruijn64tab w1 := fun j hj => by rw [cell_of_heap (c1.keep 3 (tab_lt hT) (by simp; exact hg)) j]; exact hT j hj
  have cA : w1.cell? ⟨AB, 0, none⟩ = some (.pointer (some ⟨S1, 0, none⟩)) := cell_of_row w1 AB 0 _ _ _ k1
  have HC := Aside0.mk (Clone_calls S1 t1 L1 w1 s1)
  have H1 := Aside0.mk (And.intro s2 (And.intro T1 (And.intro k1 c1)))
  clear h1 h2 hn1 hn2 hl2 hT hg s1 s2 T1 k1 c1 HI
  go_wp2_with fail
  refine HC.out.mono ?_
  rintro e w2 ⟨t', rfl, hS2, hx2, hb2⟩
  have H2 := Aside0.mk (And.intro hS2 (And.intro hx2 hb2))
  clear hS2 hx2 hb2 HC cA
  go_wp2_with fail
  generalize hW3 : w2.alloc (.cells #[.pointer (some ⟨w1.heap.size, 0, none⟩)] 63 (0, 0)) = W3
  obtain ⟨h1, h2, hn1, hn2, hl2, hT, hg⟩ := HH.out
  obtain ⟨s2, T1, k1, c1⟩ := H1.out
  obtain ⟨hS2, hx2, hb2⟩ := H2.out
  have b3 : Below w2.heap.size w2 W3 := by rw [← hW3]; exact below_alloc (Below.refl _ _) _
  have z3 : W3.heap.size = w2.heap.size + 1 := by rw [← hW3]; simp
  have q3 : W3.heap[w2.heap.size]? = some (.cells #[.pointer (some ⟨w1.heap.size, 0, none⟩)] 63 (0, 0)) := by rw [← hW3]; exact heap_alloc_new w2 _
  have b13 : Below w1.heap.size w1 W3 := below_step hb2 b3
  have zw := c1.size
  have hlt2 : ∀ x ∈ S2 :: t2.bl, x < w1.heap.size ∧ x ∉ ([] : List Nat) := fun x hx => ⟨by
    rcases List.mem_cons.1 hx with rfl | h
    · have := h2.lt; omega
    · have := at_lt t2 h2.tr x h; omega, by simp⟩
  have hI : UnAt w1.heap.size w2.heap.size w1.heap.size [] L1 [] W3 := ⟨by have := hb2.size; omega, q3, t', hS2.keep (chg_below' b3) (by simp), fun x hx => .inr (by
    rcases List.mem_cons.1 hx with rfl | h
    · exact Nat.le_refl _
    · exact hx2 x h)⟩
  have hAB : AB < w1.heap.size := (Array.getElem?_eq_some_iff.1 k1).1
  have HW := Aside0.mk (And.intro hI (And.intro (s2.keep (chg_below' b13) (by simp)) (And.intro hlt2 (And.intro hAB (And.intro ((b13.block AB hAB).trans k1) (And.intro (tab_below b13 T1) (And.intro hl2 (And.intro b13 (And.intro (tab_lt T1) (And.intro c1 zw))))))))))
  clear hW3 h1 h2 hn1 hn2 hl2 hT hg s2 T1 k1 c1 hS2 hx2 hb2 b3 z3 q3 b13 zw hlt2 hI hAB H1 H2 HH
  go_loopw [4] (fun v4 wx => ∃ k : Nat, v4 = .int .i64 (k : Int) ∧ Aside0 (k = 1 ∨ k = 2) ∧ Aside0 (UnAt w1.heap.size w2.heap.size w1.heap.size [] L1 (if k = 1 then [] else L2) wx ∧ Low w1.heap.size [] W3 wx)) (fun v4 _ => Road.leftOf 2 v4)
  case atStart => exact ⟨1, rfl, ⟨.inl rfl⟩, ⟨HW.out.1, Low.refl _ _ _⟩⟩
  case round =>
    obtain ⟨k, rfl, HK, HI⟩ := hrel
    obtain ⟨hI, s2, hlt2, hAB, k1, T3, hl2, b13, htl, c1, zw⟩ := HW.out
    have cX : wr.cell? ⟨w2.heap.size, 0, none⟩ = some (.pointer (some ⟨w1.heap.size, 0, none⟩)) := cell_of_row wr w2.heap.size 0 _ _ _ HI.out.1.box
    rcases HK.out with rfl | rfl
    · have hi0 := HI.out.1
      rw [if_pos rfl] at hi0
      have sr : SetAt wr S2 t2 L2 := SetAt_low s2 HI.out.2 hlt2
      have cB : wr.cell? ⟨AB, 1, none⟩ = some (.pointer (some ⟨S2, 0, none⟩)) := cell_of_row wr AB 1 _ _ _ ((HI.out.2.keep AB hAB (by simp)).trans k1)
      have hR := rangeU_calls (8999 - L1.length) w1.heap.size [] (UnAt w1.heap.size w2.heap.size w1.heap.size [] L1) (fun _ _ => true) w2.heap.size (fun L n w hI hL hn => unNum_calls _ _ _ _ _ L n w hI (by omega) hn) ⟨htl, by simp⟩ S2 t2 L2 wr sr hi0 (tab_low HI.out.2 htl (by simp) T3) (fun x hx => hlt2 x (List.mem_cons_of_mem _ hx)) (by omega)
      rw [runL_all L2 [], List.nil_append] at hR
      have HR := Aside0.mk hR
      have HL := Aside0.mk HI.out.2
      clear hI s2 hlt2 hAB k1 T3 hl2 b13 htl c1 zw hi0 sr hR HI
      go_wp2_with fail
      refine HR.out.mono ?_
      rintro e w5 ⟨rfl, i5, l5⟩
      have H5 := Aside0.mk (And.intro i5 l5)
      clear i5 l5
      go_wp2_with fail
      go_roundw
      case rel => exact ⟨2, rfl, ⟨.inr rfl⟩, ⟨by rw [if_neg (by decide)]; exact H5.out.1, HL.out.trans H5.out.2⟩⟩
      case measure => decide
    · have hi0 := HI.out.1
      rw [if_neg (by decide)] at hi0
      have H5 := Aside0.mk hi0
      clear hI s2 hlt2 hAB k1 T3 hl2 b13 htl c1 zw hi0
      go_wp2_with fail
      go_ret
      obtain ⟨t5, s5, _⟩ := H5.out.set
      obtain ⟨hI, s2, hlt2, hAB, k1, T3, hl2, b13, htl, c1, zw⟩ := HW.out
      have l5 := HI.out.2
      refine ⟨w1.heap.size, rfl, ⟨t5, s5⟩, ⟨l5.os.trans (b13.os.trans c1.os), l5.tape.trans (b13.tape.trans c1.tape), l5.output.trans (b13.output.trans c1.output), Nat.le_trans zw (Nat.le_trans b13.size l5.size), fun i hi hn => (l5.keep i (by omega) (by simp)).trans ((b13.block i (by omega)).trans (c1.keep i hi hn))⟩⟩
theorem below_of_chg {F : List Nat} {b : Nat} {w w' : World} (h : Chg F w w') (hF : ∀ x ∈ F, b ≤ x) (hb : b ≤ w.heap.size) : Below b w w' := ⟨h.os, h.tape, h.output, h.size, fun k hk => h.keep k (Nat.lt_of_lt_of_le hk hb) (fun hm => by have := hF k hm; omega)⟩
theorem below_cut {b c : Nat} {w w' : World} (h : Below b w w') (hc : c ≤ b) : Below c w w' := ⟨h.os, h.tape, h.output, h.size, fun k hk => h.block k (Nat.lt_of_lt_of_le hk hc)⟩
theorem below_two {b : Nat} {u v w : World} (h : Below b u v) (k : Below b v w) : Below b u w := ⟨k.os.trans h.os, k.tape.trans h.tape, k.output.trans h.output, Nat.le_trans h.size k.size, fun i hi => (k.block i hi).trans (h.block i hi)⟩
set_option maxHeartbeats 16000000 in
set_option maxRecDepth 100000 in
theorem SetUnion_walk (A : Option Addr) (c : Nat) (a : List (Int × Int)) (A' : Option Addr) (c' : Nat) (b : List (Int × Int)) (m : Bool) (w : World) (hA : ActsAt w A a) (hac : a.length ≤ c) (hF : Formed a) (hA' : ActsAt w A' b) (hac' : b.length ≤ c') (hF' : Formed b) (hl : a.length + b.length ≤ 8999) (hT : TabAt 3 Lib.deBruijn64tab w) :
    Calls Tryd.prog 25 #[.slice A a.length c, .slice A' b.length c', .bool m] w fun e w' => ∃ v, e = .returned v ∧ Kd.R (Kd.int .u64) 32 w' w.heap.size (fun _ => True) v (nI (unL (actsL [] a) (actsL [] b))) ∧ Below w.heap.size w w' := by
  have hla := actsL_le a []
  have hlb := actsL_le b []
  rw [List.length_nil] at hla hlb
  have HS := Aside0.mk (set_make A c a w hA hac hF (by omega))
  have HB := Aside0.mk (And.intro hA' (And.intro hac' (And.intro hF' (And.intro (show b.length ≤ 9000 by omega) (And.intro hT (show (actsL [] a).length + (actsL [] b).length ≤ 8999 by omega))))))
  clear hla hlb hA hac hF hA' hac' hF' hl hT
  cases m with
  | true =>
    go_enter Tryd.func25, Tryd.ntmps25
    go_wp2_with fail
    refine HS.out.mono ?_
    rintro e w1 ⟨SA, ta, rfl, sA, hsA, hxA, b1, -⟩
    have HC := Aside0.mk (set_make A' c' b w1 (acts_below b1 HB.out.1) HB.out.2.1 HB.out.2.2.1 HB.out.2.2.2.1)
    have H1 := Aside0.mk (And.intro sA (And.intro hsA (And.intro hxA b1)))
    clear sA hsA hxA b1 HS
    go_wp2_with fail
    refine HC.out.mono ?_
    rintro e w2 ⟨SB, tb, rfl, sB, hsB, hxB, b2, -⟩
    have H2 := Aside0.mk (And.intro sB (And.intro hsB (And.intro hxB b2)))
    clear sB hsB hxB b2 HC
    go_wp2_with fail
    generalize hW3 : w2.alloc (.cells #[.pointer (some ⟨SB, 0, none⟩)] 63 (0, 0)) = W3
    obtain ⟨sA, hsA, hxA, b1⟩ := H1.out
    obtain ⟨sB, hsB, hxB, b2⟩ := H2.out
    have b3 : Below w2.heap.size w2 W3 := by rw [← hW3]; exact below_alloc (Below.refl _ _) _
    have q3 : W3.heap[w2.heap.size]? = some (.cells #[.pointer (some ⟨SB, 0, none⟩)] 63 (0, 0)) := by rw [← hW3]; exact heap_alloc_new w2 _
    have b13 := below_step b2 b3
    have b03 := below_step b1 b13
    have hAlt : ∀ x ∈ SA :: ta.bl, x < w1.heap.size ∧ w.heap.size ≤ x := fun x hx => by
      rcases List.mem_cons.1 hx with rfl | h
      · exact ⟨sA.lt, hsA⟩
      · exact ⟨at_lt ta sA.tr x h, hxA x h⟩
    have hd : ∀ x ∈ SB :: tb.bl, x ∉ SA :: ta.bl := fun x hx hy => by
      have := (hAlt x hy).1
      rcases List.mem_cons.1 hx with rfl | h
      · omega
      · have := hxB x h; omega
    have HU := Aside0.mk (UnionM_calls SA SB w2.heap.size ta tb _ _ W3 (sA.keep (chg_below' b13) (by simp)) (sB.keep (chg_below' b3) (by simp)) hd q3 HB.out.2.2.2.2.2 (tab_below b03 HB.out.2.2.2.2.1) (fun hm => by have := (hAlt _ hm).2; have := tab_lt HB.out.2.2.2.2.1; omega))
    have H3 := Aside0.mk (And.intro b03 hAlt)
    clear hW3 sA hsA hxA b1 sB hsB hxB b2 b3 q3 b13 b03 hAlt hd H1 H2
    go_wp2_with fail
    refine HU.out.mono ?_
    rintro e w4 ⟨rfl, t4, s4, hx4, c4⟩
    obtain ⟨b03, hAlt⟩ := H3.out
    have b04 : Below w.heap.size w w4 := below_two b03 (below_of_chg c4 (fun x hx => (hAlt x hx).2) b03.size)
    have hle := unL_le (actsL [] b) (actsL [] a)
    have HA := Aside0.mk (all_walk SA t4 _ w4 s4 (by have := HB.out.2.2.2.2.2; omega) (tab_below b04 HB.out.2.2.2.2.1))
    have H4 := Aside0.mk b04
    clear s4 hx4 c4 b03 hAlt b04 hle HU
    go_wp2_with fail
    refine HA.out.mono ?_
    rintro e w5 ⟨v, rfl, r5, b5⟩
    have H5 := Aside0.mk (And.intro r5 b5)
    clear r5 b5
    go_wp2_with fail
    go_ret
    exact ⟨v, rfl, Kd.R_mono (Kd.R_lower H5.out.1 H4.out.size) (fun _ _ => trivial), below_step H4.out H5.out.2⟩
  | false =>
    go_enter Tryd.func25, Tryd.ntmps25
    go_wp2_with fail
    refine HS.out.mono ?_
    rintro e w1 ⟨SA, ta, rfl, sA, hsA, hxA, b1, -⟩
    have HC := Aside0.mk (set_make A' c' b w1 (acts_below b1 HB.out.1) HB.out.2.1 HB.out.2.2.1 HB.out.2.2.2.1)
    have H1 := Aside0.mk (And.intro sA (And.intro hsA (And.intro hxA b1)))
    clear sA hsA hxA b1 HS
    go_wp2_with fail
    refine HC.out.mono ?_
    rintro e w2 ⟨SB, tb, rfl, sB, hsB, hxB, b2, -⟩
    have H2 := Aside0.mk (And.intro sB (And.intro hsB (And.intro hxB b2)))
    clear sB hsB hxB b2 HC
    go_wp2_with fail
    generalize hW3 : w2.alloc (.cells #[.pointer (some ⟨SA, 0, none⟩), .pointer (some ⟨SB, 0, none⟩)] 63 (0, 0)) = W3
    obtain ⟨sA, hsA, hxA, b1⟩ := H1.out
    obtain ⟨sB, hsB, hxB, b2⟩ := H2.out
    have b3 : Below w2.heap.size w2 W3 := by rw [← hW3]; exact below_alloc (Below.refl _ _) _
    have z3 : W3.heap.size = w2.heap.size + 1 := by rw [← hW3]; simp
    have q3 : W3.heap[w2.heap.size]? = some (.cells #[.pointer (some ⟨SA, 0, none⟩), .pointer (some ⟨SB, 0, none⟩)] 63 (0, 0)) := by rw [← hW3]; exact heap_alloc_new w2 _
    have b13 := below_step b2 b3
    have b03 := below_step b1 b13
    have hz := Nat.le_trans b1.size b2.size
    have HU := Aside0.mk (UnionF_calls SA SB w2.heap.size ta tb _ _ W3 (sA.keep (chg_below' b13) (by simp)) (sB.keep (chg_below' b3) (by simp)) q3 HB.out.2.2.2.2.2 (tab_below b03 HB.out.2.2.2.2.1) (by have := tab_lt HB.out.2.2.2.2.1; omega))
    have H3 := Aside0.mk (And.intro b03 hz)
    clear hW3 sA hsA hxA b1 sB hsB hxB b2 b3 z3 q3 b13 b03 hz H1 H2
    go_wp2_with fail
    refine HU.out.mono ?_
    rintro e w4 ⟨S4, t4, rfl, s4, c4⟩
    obtain ⟨b03, hz⟩ := H3.out
    have b04 : Below w.heap.size w w4 := below_two b03 (below_of_chg c4 (fun x hx => by rw [List.mem_singleton.1 hx]; exact hz) b03.size)
    have hle := unL_le (actsL [] b) (actsL [] a)
    have HA := Aside0.mk (all_walk S4 t4 _ w4 s4 (by have := HB.out.2.2.2.2.2; omega) (tab_below b04 HB.out.2.2.2.2.1))
    have H4 := Aside0.mk b04
    clear s4 c4 b03 hz b04 hle HU
    go_wp2_with fail
    refine HA.out.mono ?_
    rintro e w5 ⟨v, rfl, r5, b5⟩
    have H5 := Aside0.mk (And.intro r5 b5)
    clear r5 b5
    go_wp2_with fail
    go_ret
    exact ⟨v, rfl, Kd.R_mono (Kd.R_lower H5.out.1 H4.out.size) (fun _ _ => trivial), below_step H4.out H5.out.2⟩

end Go.Proofs.YtjhdnapgdajllaaDoor.SetUnionV
