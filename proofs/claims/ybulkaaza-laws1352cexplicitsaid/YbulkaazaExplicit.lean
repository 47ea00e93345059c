/-
  The walk of LawS1352CExplicit.
-/
import Derived.Test.YbulkaazaRows
import Derived.WalkKit
import Derived.ProofKit
import Derived.Handy
import Derived.WalkSpells
import Derived.Deep.LoopGhost
namespace Go.Proofs.Ybulkaaza
open Go.RowKit
theorem zero89 : ∃ cs : Array Value, (∀ w : World, (zeroValue 89).run Yba.prog w = .ok (.agg cs) w) ∧ cs[5]? = some (.int .i64 0) :=
  ⟨match (Yba.prog.info? 89).bind (·.zero) with | some (.agg cs) => cs | _ => #[], fun w => by kernel_rfl, by kernel_rfl⟩

theorem start_cell (w : World) (cs : Array Value) (h5 : cs[5]? = some (.int .i64 0)) :
    (w.alloc (.cells cs 89)).cell? ⟨w.heap.size, 5, none⟩ = some (.int .i64 0) ∧ (w.alloc (.cells cs 89)).frozen? ⟨w.heap.size, 5, none⟩ = false := by
  have hb : (w.alloc (.cells cs 89)).heap[w.heap.size]? = some (.cells cs 89) := heap_alloc_new w _
  constructor
  · rw [cell_of_row (w.alloc (.cells cs 89)) w.heap.size 5 cs 89 (0, 0) hb]
    exact h5
  · simp only [World.frozen?, hb]
    rfl

theorem timeout_any (g s : Nat) (h1 : 1 ≤ s) (h2 : s ≤ 100) (w : World) (hc : w.cell? ⟨g, 5, none⟩ = some (.int .i64 (s : Int))) :
    Calls Yba.prog 7 #[.pointer (some ⟨g, 0, none⟩)] w fun e w' => e = .returned (.int .u64 (s : Int)) ∧ w' = w := by
  go_enter Yba.func7, Yba.ntmps7
  go_wp2
  go_ret
  exact ⟨rfl, rfl⟩

set_option maxRecDepth 100000 in
set_option maxHeartbeats 1000000 in
theorem explicit_any (a : Int) (h0 : 0 ≤ a) (h1 : a ≤ 255) (w : World) :
    Calls Yba.prog 4 #[.int .u8 a] w fun e w' => e = .returned (.bool true) ∧ Below w.heap.size w w' := by
  obtain ⟨cs, hz, hz5⟩ := zero89
  obtain ⟨k, hk, hk1, hk2⟩ : ∃ k : Nat, a % 100 + 1 = (k : Int) ∧ 1 ≤ k ∧ k ≤ 100 := ⟨(a % 100 + 1).toNat, by omega, by omega, by omega⟩
  have HZ : Hid _ := hz5
  clear hz5
  go_enter Yba.func4, Yba.ntmps4
  go_wp2_with fail
  go_loopg [5] k (fun r v wr => ∃ i : Nat, i + r = k ∧ v = .int .i64 (i : Int) ∧ wr.cell? ⟨w.heap.size, 5, none⟩ = some (.int .i64 (i : Int)) ∧ wr.frozen? ⟨w.heap.size, 5, none⟩ = false ∧ Below w.heap.size w wr)
  case atStart =>
    exact ⟨0, by omega, rfl, (start_cell w cs HZ.out).1, (start_cell w cs HZ.out).2, (Below.refl _ _).alloc (Nat.le_refl _) _⟩
  case round =>
    obtain ⟨i, hi, rfl, hc, hf, hB⟩ := hrel
    have HD : Hid _ := hi
    clear hi
    by_cases hlt : i < k
    · have hlt' : (i : Int) < (k : Int) := by omega
      have HB : Hid (Below w.heap.size w (wr.setCell ⟨w.heap.size, 5, none⟩ (.int .i64 ((i : Int) + 1)))) := hB.setCell (p := ⟨w.heap.size, 5, none⟩) (Nat.le_refl _) _
      have HC : Hid ((wr.setCell ⟨w.heap.size, 5, none⟩ (.int .i64 ((i : Int) + 1))).cell? ⟨w.heap.size, 5, none⟩ = some (.int .i64 ((i : Int) + 1))) := World.cell?_setCell_same _ _ _ hc
      have HF : Hid ((wr.setCell ⟨w.heap.size, 5, none⟩ (.int .i64 ((i : Int) + 1))).frozen? ⟨w.heap.size, 5, none⟩ = false) := by unfold Hid; rw [World.frozen?_setCell]; exact hf
      clear hB
      go_wp2_with fail
      go_roundg (gk - 1)
      case measure => have := HD.out; omega
      case rel => exact ⟨i + 1, by have := HD.out; omega, by go_num, HC.out, HF.out, HB.out⟩
    · obtain rfl : i = k := by have := HD.out; omega
      have HB : Hid _ := hB
      clear hB
      go_wp2_with (first | (go_at_call 7; refine (timeout_any w.heap.size i hk1 hk2 _ hc).mono ?_; rintro e w1 ⟨rfl, hw1⟩; rw [hw1]; clear hw1 w1))
      go_ret
      exact ⟨rfl, HB.out⟩
end Go.Proofs.Ybulkaaza
