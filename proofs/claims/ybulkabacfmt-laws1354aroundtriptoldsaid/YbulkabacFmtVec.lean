/-
  The cursor's method vector, at a length of two bytes.
-/
import Derived.Test.YbulkabacFmtCur
namespace Go.Proofs.YbulkabacFmt
open Go.RowKit

/-- What stands behind the two new variables of vector. -/
theorem two_new {w : World} (x : Value) : (((w.alloc (.cells #[x] 29)).alloc (.cells #[.int .i64 0] 3)).cell? ⟨w.heap.size, 0, none⟩ = some x) ∧ (((w.alloc (.cells #[x] 29)).alloc (.cells #[.int .i64 0] 3)).cell? ⟨w.heap.size + 1, 0, none⟩ = some (.int .i64 0)) ∧
    (((w.alloc (.cells #[x] 29)).alloc (.cells #[.int .i64 0] 3)).frozen? ⟨w.heap.size, 0, none⟩ = false) ∧ (((w.alloc (.cells #[x] 29)).alloc (.cells #[.int .i64 0] 3)).frozen? ⟨w.heap.size + 1, 0, none⟩ = false) := by
  refine ⟨?_, ?_, ?_, ?_⟩ <;> simp [go_sem]

set_option maxHeartbeats 1000000 in
theorem vector_short (c v b off len cap : Nat) (w : World) (hc : Cur w c b off len cap) (hs : len < 2) :
    Calls Ybaf.prog 8 #[.pointer (some ⟨c, 0, none⟩), .int .i64 2, .pointer (some ⟨v, 0, none⟩)] w fun e w' => e = .returned (.bool false) ∧ Upd c v w w' := by
  obtain ⟨ao, h0, hl, hao⟩ := hc
  obtain ⟨t0, t1, t2, t3⟩ := two_new (w := w) (.slice ao len cap)
  have HC : Hid (Cur ((w.alloc (.cells #[.slice ao len cap] 29)).alloc (.cells #[.int .i64 0] 3)) w.heap.size b off len cap) := ⟨ao, t0, hl, hao⟩
  have hnot : ∀ (x : Bool) (w : World), (Op.unary .not (.bool x)).run Ybaf.prog w = .ok (.bool (!x)) w := fun _ _ => rfl
  clear hao
  go_enter Ybaf.func8, Ybaf.ntmps8
  go_wp2_with (first | (go_at_call 10; refine (number_no _ _ b off len cap 2 _ HC.out hs).mono ?_; rintro e w1 ⟨rfl, hw1⟩; rw [hw1]; clear hw1 w1))
  go_ret
  exact ⟨rfl, ((Upd.refl c v w).alloc _).alloc _⟩

theorem old_cell {w w1 : World} {A B : Obj} {k c v : Nat} (hu : Upd c v ((w.alloc A).alloc B) w1) (hk : k < w.heap.size) (h1 : k ≠ c) (h2 : k ≠ v) : w1.cell? ⟨k, 0, none⟩ = w.cell? ⟨k, 0, none⟩ := by
  rw [hu.cell (a := ⟨k, 0, none⟩) (by simp; omega) h1 h2, World.cell?_of_block (Below.heap_alloc _ _ k (by simp; omega)), World.cell?_of_block (Below.heap_alloc _ _ k hk)]

set_option maxHeartbeats 1000000 in
theorem vector_long (c v b off len cap b0 b1 : Nat) (x : Value) (w : World) (hc : Cur w c b off len cap) (hs : 2 ≤ len) (h1 : w.cell? ⟨v, 0, none⟩ = some x)
   (r0 : w.cell? ⟨b, off, none⟩ = some (.int .u8 (b0 : Int))) (r1 : w.cell? ⟨b, off + 1, none⟩ = some (.int .u8 (b1 : Int))) (g0 : b0 < 256) (g1 : b1 < 256) (hlong : len - 2 < b0 * 256 + b1) :
    Calls Ybaf.prog 8 #[.pointer (some ⟨c, 0, none⟩), .int .i64 2, .pointer (some ⟨v, 0, none⟩)] w fun e w' => e = .returned (.bool false) ∧ Upd c v w w' := by
  obtain ⟨ao, h0, hl, hao⟩ := hc
  obtain ⟨t0, t1, t2, t3⟩ := two_new (w := w) (.slice ao len cap)
  have lc : c < w.heap.size := World.block_lt_of_cell? w _ h0
  have lv : v < w.heap.size := World.block_lt_of_cell? w _ h1
  have lb : b < w.heap.size := World.block_lt_of_cell? w _ r0
  have HC : Hid (Cur ((w.alloc (.cells #[.slice ao len cap] 29)).alloc (.cells #[.int .i64 0] 3)) w.heap.size b off len cap) := ⟨ao, t0, hl, hao⟩
  have hnot : ∀ (x : Bool) (w : World), (Op.unary .not (.bool x)).run Ybaf.prog w = .ok (.bool (!x)) w := fun _ _ => rfl
  have u0 : Upd c v w ((w.alloc (.cells #[.slice ao len cap] 29)).alloc (.cells #[.int .i64 0] 3)) := ((Upd.refl c v w).alloc _).alloc _
  have q0 : ((w.alloc (.cells #[.slice ao len cap] 29)).alloc (.cells #[.int .i64 0] 3)).cell? ⟨b, off, none⟩ = some (.int .u8 (b0 : Int)) := by rw [World.cell?_of_block (Below.heap_alloc _ _ b (by simp; omega)), World.cell?_of_block (Below.heap_alloc _ _ b lb)]; exact r0
  have q1 : ((w.alloc (.cells #[.slice ao len cap] 29)).alloc (.cells #[.int .i64 0] 3)).cell? ⟨b, off + 1, none⟩ = some (.int .u8 (b1 : Int)) := by rw [World.cell?_of_block (Below.heap_alloc _ _ b (by simp; omega)), World.cell?_of_block (Below.heap_alloc _ _ b lb)]; exact r1
  clear hao
  go_enter Ybaf.func8, Ybaf.ntmps8
  go_wp2_with (first | (go_at_call 10; refine (number2 _ _ b off len cap b0 b1 _ _ HC.out t1 hs t3 t2 (by omega) (by omega) (by omega) q0 q1 g0 g1).mono ?_; rintro e w1 ⟨rfl, hn1, ⟨a1, hc1, hl1, ha1⟩, hu1⟩))
  go_ret
  exact ⟨rfl, hu1.widen u0 (Or.inl (Nat.le_refl _)) (Or.inl (by omega))⟩

set_option maxHeartbeats 1000000 in
theorem vector_yes (c v b off len cap b0 b1 : Nat) (x : Value) (w : World) (hc : Cur w c b off len cap) (hs : 2 ≤ len) (h1 : w.cell? ⟨v, 0, none⟩ = some x)
   (hf : w.frozen? ⟨v, 0, none⟩ = false) (hf2 : w.frozen? ⟨c, 0, none⟩ = false) (hcv : c ≠ v) (r0 : w.cell? ⟨b, off, none⟩ = some (.int .u8 (b0 : Int))) (r1 : w.cell? ⟨b, off + 1, none⟩ = some (.int .u8 (b1 : Int))) (g0 : b0 < 256) (g1 : b1 < 256) (hfit : b0 * 256 + b1 ≤ len - 2) :
    Calls Ybaf.prog 8 #[.pointer (some ⟨c, 0, none⟩), .int .i64 2, .pointer (some ⟨v, 0, none⟩)] w fun e w' => e = .returned (.bool true) ∧ Cur w' v b (off + 2) (b0 * 256 + b1) (cap - 2) ∧ Cur w' c b (off + 2 + (b0 * 256 + b1)) (len - 2 - (b0 * 256 + b1)) (cap - 2 - (b0 * 256 + b1)) ∧ Upd c v w w' := by
  obtain ⟨ao, h0, hl, hao⟩ := hc
  obtain ⟨t0, t1, t2, t3⟩ := two_new (w := w) (.slice ao len cap)
  have lc : c < w.heap.size := World.block_lt_of_cell? w _ h0
  have lv : v < w.heap.size := World.block_lt_of_cell? w _ h1
  have lb : b < w.heap.size := World.block_lt_of_cell? w _ r0
  have HC : Hid (Cur ((w.alloc (.cells #[.slice ao len cap] 29)).alloc (.cells #[.int .i64 0] 3)) w.heap.size b off len cap) := ⟨ao, t0, hl, hao⟩
  have hnot : ∀ (x : Bool) (w : World), (Op.unary .not (.bool x)).run Ybaf.prog w = .ok (.bool (!x)) w := fun _ _ => rfl
  have u0 : Upd c v w ((w.alloc (.cells #[.slice ao len cap] 29)).alloc (.cells #[.int .i64 0] 3)) := ((Upd.refl c v w).alloc _).alloc _
  have q0 : ((w.alloc (.cells #[.slice ao len cap] 29)).alloc (.cells #[.int .i64 0] 3)).cell? ⟨b, off, none⟩ = some (.int .u8 (b0 : Int)) := by rw [World.cell?_of_block (Below.heap_alloc _ _ b (by simp; omega)), World.cell?_of_block (Below.heap_alloc _ _ b lb)]; exact r0
  have q1 : ((w.alloc (.cells #[.slice ao len cap] 29)).alloc (.cells #[.int .i64 0] 3)).cell? ⟨b, off + 1, none⟩ = some (.int .u8 (b1 : Int)) := by rw [World.cell?_of_block (Below.heap_alloc _ _ b (by simp; omega)), World.cell?_of_block (Below.heap_alloc _ _ b lb)]; exact r1
  clear hao
  have n1 := hcv.symm
  have n2 : w.heap.size ≠ v := by omega
  have n3 : w.heap.size ≠ c := by omega
  have n4 : w.heap.size + 1 ≠ v := by omega
  have n5 : w.heap.size + 1 ≠ c := by omega
  by_cases hcap : cap - 2 = b0 * 256 + b1
  · go_enter Ybaf.func8, Ybaf.ntmps8
    go_wp2_with (first | (go_at_call 10; refine (number2 _ _ b off len cap b0 b1 _ _ HC.out t1 hs t3 t2 (by omega) (by omega) (by omega) q0 q1 g0 g1).mono ?_; rintro e w1 ⟨rfl, hn1, ⟨a1, hc1, hl1, ha1⟩, hu1⟩; have HU : Hid (Upd c v w w1) := hu1.widen u0 (Or.inl (Nat.le_refl _)) (Or.inl (by omega)); have kc := (old_cell hu1 lc (by omega) (by omega)).trans h0; have kv := (old_cell hu1 lv (by omega) (by omega)).trans h1; have kf := (HU.out.fz v 0 lv).trans hf; have kg := (HU.out.fz c 0 lc).trans hf2; have HA : Hid _ := ha1; clear hu1 ha1))
    go_ret
    have e1 : cap - 2 - (b0 * 256 + b1) = 0 := by omega
    obtain ⟨p1, p2⟩ := set_v kc kv hcv (.slice a1 (b0 * 256 + b1) (b0 * 256 + b1))
    obtain ⟨p3, p4⟩ := set_v p2 p1 n1 (.slice a1 (len - 2 - (b0 * 256 + b1)) 0)
    refine ⟨rfl, ⟨a1, ?_, by omega, ?_⟩, ⟨a1, ?_, by omega, fun hp => absurd hp (by omega)⟩, (HU.out.setV 0 _).setC 0 _⟩
    · first | exact p3 | (rw [hcap]; exact p3)
    · intro hp
      exact HA.out (by omega)
    · first | exact p4 | (rw [e1]; exact p4)
  · go_enter Ybaf.func8, Ybaf.ntmps8
    go_wp2_with (first | (go_at_call 10; refine (number2 _ _ b off len cap b0 b1 _ _ HC.out t1 hs t3 t2 (by omega) (by omega) (by omega) q0 q1 g0 g1).mono ?_; rintro e w1 ⟨rfl, hn1, ⟨a1, hc1, hl1, ha1⟩, hu1⟩; have HU : Hid (Upd c v w w1) := hu1.widen u0 (Or.inl (Nat.le_refl _)) (Or.inl (by omega)); have kc := (old_cell hu1 lc (by omega) (by omega)).trans h0; have kv := (old_cell hu1 lv (by omega) (by omega)).trans h1; have kf := (HU.out.fz v 0 lv).trans hf; have kg := (HU.out.fz c 0 lc).trans hf2; obtain rfl := ha1 (by omega); clear hu1 ha1))
    go_ret
    obtain ⟨p1, p2⟩ := set_v kc kv hcv (.slice (some ⟨b, off + 2, none⟩) (b0 * 256 + b1) (cap - 2))
    obtain ⟨p3, p4⟩ := set_v p2 p1 n1 (.slice (some ⟨b, off + 2 + (b0 * 256 + b1), none⟩) (len - 2 - (b0 * 256 + b1)) (cap - 2 - (b0 * 256 + b1)))
    exact ⟨rfl, ⟨_, p3, by omega, fun _ => rfl⟩, ⟨_, p4, by omega, fun _ => rfl⟩, (HU.out.setV 0 _).setC 0 _⟩
end Go.Proofs.YbulkabacFmt
