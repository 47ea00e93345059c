/-
  The buffer of the round trip: made, and its two first bytes laid.
-/
import Derived.Test.YbulkabacFmtMc
import Derived.Test.YbulkabacFmtNames
import Derived.Lib.AppendStr
import Derived.Deep.AppendLies
import Derived.Deep.RegionLaw
import Derived.Deep.DrawnRows
import Derived.Deep.OwnRows
import Derived.Handy
namespace Go.Proofs.YbulkabacFmt
open Go.RowKit Go.Extern.Stop Go.Stop Go.Extern

theorem info5 : (Ybaf.prog.info? 5).map (fun i => (i.zero, i.size, i.bytes)) = some (some (.int .u8 0), 1, 1) := by kernel_rfl

theorem make_buf (T : Nat) (hT : T ≤ 60000) (w : World) : ∃ w1, (Instr.makeSlice 22 (.int .i64 2) (.int .i64 (2 + (T : Int) + 1))).run Ybaf.prog w = .ok (.slice (some ⟨w.heap.size, 0, none⟩) 2 (T + 3)) w1 ∧
    w1.cell? ⟨w.heap.size, 0, none⟩ = some (.int .u8 0) ∧ w1.cell? ⟨w.heap.size, 1, none⟩ = some (.int .u8 0) ∧ w1.frozen? ⟨w.heap.size, 0, none⟩ = false ∧ w1.frozen? ⟨w.heap.size, 1, none⟩ = false ∧
    Below w.heap.size w w1 ∧ w.heap.size < w1.heap.size ∧
    ∀ x y, ((w1.setCell ⟨w.heap.size, 0, none⟩ x).setCell ⟨w.heap.size, 1, none⟩ y).ownsRow w.heap.size 5 1 (.slice (some ⟨w.heap.size, 0, none⟩) 2 (T + 3)) 2 [x, y] := by
  obtain ⟨i, hi, hzz⟩ := Option.map_eq_some_iff.1 info5
  simp only [Prod.mk.injEq] at hzz
  obtain ⟨hz, hs, hb⟩ := hzz
  have hr := run_make (P := Ybaf.prog) w 22 5 i (.int .u8 0) Ybaf.underlying22 hi hz .i64 .i64 2 (2 + (T : Int) + 1) (by omega) (by omega) (by rw [hb]; omega) (by omega)
  have e1 : (2 + (T : Int) + 1).toNat = T + 3 := by omega
  have e2 : (2 : Int).toNat = 2 := rfl
  rw [hs, Nat.mul_one, e1, e2] at hr
  have hnew := heap_alloc_new w (.cells (madeCells (Value.int IntKind.u8 0).cells (T + 3)) 5)
  have hsz := size_madeCells (Value.int IntKind.u8 0).cells (T + 3)
  have hz0 : ∀ j, j < T + 3 → (madeCells (Value.int IntKind.u8 0).cells (T + 3))[j]? = some (.int .u8 0) := by
    intro j hj
    simp only [madeCells]
    rw [Array.getElem?_map, Array.getElem?_range]
    simp [hj, Value.cells]
    have : j % 1 = 0 := Nat.mod_one j
    simp [this]
  have hfz : ∀ j, (w.alloc (.cells (madeCells (Value.int IntKind.u8 0).cells (T + 3)) 5)).frozen? ⟨w.heap.size, j, none⟩ = false := by
    intro j
    unfold World.frozen?
    rw [hnew]
    simp
  refine ⟨_, hr, ?_, ?_, hfz 0, hfz 1, (Below.refl _ _).alloc (Nat.le_refl _) _, by simp, fun x y => ?_⟩
  · rw [cell_of_row _ _ 0 _ _ _ hnew]; exact hz0 0 (by omega)
  · rw [cell_of_row _ _ 1 _ _ _ hnew]; exact hz0 1 (by omega)
  · have h1 := heap_setCell_same _ _ 0 _ _ x hnew
    have h2 := heap_setCell_same _ _ 1 _ _ y h1
    refine ⟨rfl, .inr ⟨_, _, _, rfl, Nat.le_refl _, h2, by omega, by unfold maxLen; omega, by simp [hsz], ?_⟩⟩
    generalize hc : madeCells (Value.int IntKind.u8 0).cells (T + 3) = cs at *
    obtain ⟨l⟩ := cs
    simp at hsz
    match l, hsz with
    | a :: b :: r, _ => simp
end Go.Proofs.YbulkabacFmt
