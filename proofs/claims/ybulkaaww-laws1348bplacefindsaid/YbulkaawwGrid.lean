/-
  A table of blocks in memory: plain laws on worlds, with no walk in them.
-/
import Derived.Test.YbulkaawwRows
import Derived.WalkKit
import Derived.ProofKit
import Derived.Deep.AppendLies
import Derived.Deep.OwnRows
namespace Go.Proofs.Ybulkaaww
open Go.RowKit

/-- How many slots block i of a table of N slots has. -/
def sz (N i : Nat) : Nat := min (N - 16384 * i) 16384
def ent (N : Nat) (bs : Nat → Nat) (i : Nat) : Value := .slice (some ⟨bs i, 0, none⟩) (sz N i) (sz N i)

theorem sz_le (N i : Nat) : sz N i ≤ 16384 := by unfold sz; omega

/-- The first k blocks of a table of N slots: the row of slices v, its blocks bs, slot s holding F s. -/
structure Grid (w : World) (base : Nat) (er et : TypeId) (N k : Nat) (v : Value) (bs : Nat → Nat) (F : Nat → Value) : Prop where
  own : w.ownsRow base er 1 v k ((List.range k).map (ent N bs))
  row : ∀ i, i < k → w.rowIs (bs i) et (sz N i) (fun j => F (16384 * i + j))
  lo : ∀ i, i < k → base ≤ bs i
  inj : ∀ i j, i < j → j < k → bs i < bs j

def tyAt (w : World) (b : Nat) : Option TypeId :=
  match w.heap[b]? with
  | some (.cells _ t _) => some t
  | _ => none

theorem tyAt_own {w : World} {base : Nat} {e : TypeId} {size : Nat} {v : Value} {n : Nat} {xs : List Value} (h : w.ownsRow base e size v n xs) {b : Nat} (hb : v.ownBlock = some b) : tyAt w b = some e := by
  rcases h.2 with ⟨rfl, _⟩ | ⟨g, cap, cur, rfl, _, hg, _⟩
  · simp [Value.ownBlock] at hb
  · simp [Value.ownBlock] at hb
    subst hb
    simp [tyAt, hg]

theorem tyAt_row {w : World} {b : Nat} {t : TypeId} {n : Nat} {f : Nat → Value} (h : w.rowIs b t n f) : tyAt w b = some t := by
  obtain ⟨c, hb, _⟩ := h
  simp [tyAt, hb]

namespace Grid
variable {w w1 : World} {base : Nat} {er et : TypeId} {N k : Nat} {v : Value} {bs : Nat → Nat} {F : Nat → Value}

theorem nil (w : World) (base : Nat) (er et : TypeId) (N : Nat) (bs : Nat → Nat) (F : Nat → Value) : Grid w base er et N 0 (.slice none 0 0) bs F :=
  ⟨World.ownsRow_nil _ _ _ _, fun i h => absurd h (Nat.not_lt_zero i), fun i h => absurd h (Nat.not_lt_zero i), fun _ j _ h => absurd h (Nat.not_lt_zero j)⟩

theorem drew (h : Grid w base er et N k v bs F) : Grid w.drew base er et N k v bs F := ⟨h.own, h.row, h.lo, h.inj⟩

theorem alloc (h : Grid w base er et N k v bs F) (o : Obj) : Grid (w.alloc o) base er et N k v bs F :=
  ⟨h.own.alloc o, fun i hi => (h.row i hi).alloc o, h.lo, h.inj⟩

theorem setBelow (h : Grid w base er et N k v bs F) {a : Addr} (ha : a.block < base) (u : Value) : Grid (w.setCell a u) base er et N k v bs F :=
  ⟨ownsRow_setCell_below h.own ha u, fun i hi => (h.row i hi).setOther (by have := h.lo i hi; omega) u, h.lo, h.inj⟩

/-- The world has grown, but for a row that is none of these. -/
theorem far (h : Grid w base er et N k v bs F) {row : Option Nat} (hg : w.grownBy w1 row) (hr : ∀ r, row = some r → tyAt w r ≠ some er ∧ tyAt w r ≠ some et) : Grid w1 base er et N k v bs F := by
  refine ⟨h.own.kept hg ?_, fun i hi => (h.row i hi).of_block (hg.block _ (h.row i hi).lt fun e => (hr _ e.symm).2 (tyAt_row (h.row i hi))), h.lo, h.inj⟩
  cases hv : v.ownBlock with
  | none => exact .inl rfl
  | some b =>
    right
    intro e
    exact (hr b e.symm).1 (tyAt_own h.own hv)

/-- One block more. -/
theorem push {z : Value} (h : Grid w base er et N k v bs (fun _ => z)) (hne : er ≠ et) (B : Obj) {gg cap : Nat}
    (hgrow : (((w.alloc (.cells (madeCells #[z] (sz N k)) et)).alloc B).drew).grownBy w1 v.ownBlock)
    (hown1 : w1.ownsRow base er 1 (.slice (some ⟨gg, 0, none⟩) (k + 1) cap) (k + 1) ((List.range k).map (ent N bs) ++ [.slice (some ⟨w.heap.size, 0, none⟩) (sz N k) (sz N k)]))
    (hb : base ≤ w.heap.size) :
    Grid w1 base er et N (k + 1) (.slice (some ⟨gg, 0, none⟩) (k + 1) cap) (fun i => if i < k then bs i else w.heap.size) (fun _ => z) := by
  have hnew : (((w.alloc (.cells (madeCells #[z] (sz N k)) et)).alloc B).drew).rowIs w.heap.size et (sz N k) (fun _ => z) := ((World.rowIs_made w z (sz N k) et).alloc B).drew
  have hold : ∀ i, i < k → (((w.alloc (.cells (madeCells #[z] (sz N k)) et)).alloc B).drew).rowIs (bs i) et (sz N i) (fun _ => z) := fun i hi => (((h.row i hi).alloc _).alloc B).drew
  have hfar : ∀ b, tyAt (((w.alloc (.cells (madeCells #[z] (sz N k)) et)).alloc B).drew) b = some et → some b ≠ v.ownBlock := by
    intro b hb e
    have := tyAt_own (((h.own.alloc (.cells (madeCells #[z] (sz N k)) et)).alloc B).drew) e.symm
    rw [hb] at this
    exact hne (Option.some.inj this).symm
  refine ⟨?_, ?_, ?_, ?_⟩
  · have e : (List.range (k + 1)).map (ent N (fun i => if i < k then bs i else w.heap.size)) = (List.range k).map (ent N bs) ++ [.slice (some ⟨w.heap.size, 0, none⟩) (sz N k) (sz N k)] := by
      rw [List.range_succ, List.map_append]
      congr 1
      · refine List.map_congr_left fun i hi => ?_
        have : i < k := by simpa using hi
        simp [ent, this]
      · simp [ent]
    rw [e]
    exact hown1
  · intro i hi
    by_cases hik : i < k
    · simp only [hik, if_true]
      exact (hold i hik).of_block (hgrow.block _ (hold i hik).lt (hfar _ (tyAt_row (hold i hik))))
    · obtain rfl : i = k := by omega
      simp only [hik, if_false]
      exact hnew.of_block (hgrow.block _ hnew.lt (hfar _ (tyAt_row hnew)))
  · intro i hi
    by_cases hik : i < k
    · simp only [hik, if_true]; exact h.lo i hik
    · simp only [hik, if_false]; exact hb
  · intro i j hij hj
    have hik : i < k := by omega
    simp only [hik, if_true]
    by_cases hjk : j < k
    · simp only [hjk, if_true]; exact h.inj i j hij hjk
    · simp only [hjk, if_false]; exact (h.row i hik).lt

/-- Element i of the row of slices. -/
theorem cell (h : Grid w base er et N k v bs F) {g cap : Nat} (hv : v = .slice (some ⟨g, 0, none⟩) k cap) {i : Nat} (hi : i < k) : w.cell? ⟨g, i, none⟩ = some (ent N bs i) := by
  have := h.own.cells (g := g) (by rw [hv]; rfl) i (ent N bs i) (by simp [hi])
  have e : (⟨g, 0, none⟩ : Addr).add i = ⟨g, i, none⟩ := by unfold Addr.add; split <;> simp_all
  rwa [e] at this

/-- What the row of slices looks like. -/
theorem form (h : Grid w base er et N k v bs F) (hk : 0 < k) : ∃ g cap, v = .slice (some ⟨g, 0, none⟩) k cap ∧ base ≤ g ∧ g < w.heap.size := h.own.form hk

theorem slot (h : Grid w base er et N k v bs F) {i j : Nat} (hi : i < k) (hj : j < sz N i) : w.cell? ⟨bs i, j, none⟩ = some (F (16384 * i + j)) := (h.row i hi).cell hj

end Grid
end Go.Proofs.Ybulkaaww
