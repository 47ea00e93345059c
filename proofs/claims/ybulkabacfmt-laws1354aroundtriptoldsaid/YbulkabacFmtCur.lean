/-
  The cursor's methods: number and vector.
-/
import Derived.Test.YbulkabacFmtIs
import Derived.Test.YbulkabacFmtPlain
import Derived.Deep.LoopGhost
namespace Go.Proofs.YbulkabacFmt
open Go.RowKit

theorem or_byte (a b : Nat) (ha : a < 65536) (hb : b < 256) : bits .or .i64 ((a : Int) * 256) (b : Int) = (a : Int) * 256 + (b : Int) := by
  have e : a * 256 ||| b = a * 256 + b := by
    have h := Nat.shiftLeft_add_eq_or_of_lt (i := 8) (b := b) (by omega) a
    rw [Nat.shiftLeft_eq] at h
    exact h.symm
  have h1 : (BitVec.ofInt 64 ((a : Int) * 256)).toNat = a * 256 := by
    rw [show ((a : Int) * 256) = ((a * 256 : Nat) : Int) from by omega, BitVec.ofInt_natCast, BitVec.toNat_ofNat]; exact Nat.mod_eq_of_lt (by omega)
  have h2 : (BitVec.ofInt 64 (b : Int)).toNat = b := by
    rw [BitVec.ofInt_natCast, BitVec.toNat_ofNat]; exact Nat.mod_eq_of_lt (by omega)
  show IntKind.i64.wrap ((BitVec.ofInt 64 ((a : Int) * 256) ||| BitVec.ofInt 64 (b : Int)).toNat : Int) = _
  rw [BitVec.toNat_or, h1, h2, e, IntKind.wrap_i64]
  omega

theorem or_zero (b : Nat) (hb : b < 256) : bits .or .i64 0 (b : Int) = (b : Int) := by
  have h := or_byte 0 b (by omega) hb
  simpa using h


/-- The world but for blocks c and v. -/
structure Upd (c v : Nat) (w w' : World) : Prop where
  os : w'.os = w.os
  tape : w'.tape = w.tape
  output : w'.output = w.output
  size : w.heap.size ≤ w'.heap.size
  block : ∀ k, k < w.heap.size → k ≠ c → k ≠ v → w'.heap[k]? = w.heap[k]?
  fz : ∀ k o, k < w.heap.size → w'.frozen? ⟨k, o, none⟩ = w.frozen? ⟨k, o, none⟩

namespace Upd
variable {c v : Nat} {w w1 w2 : World}
theorem refl (c v : Nat) (w : World) : Upd c v w w := ⟨rfl, rfl, rfl, Nat.le_refl _, fun _ _ _ _ => rfl, fun _ _ _ => rfl⟩
theorem trans (h : Upd c v w w1) (k : Upd c v w1 w2) : Upd c v w w2 :=
  ⟨k.os.trans h.os, k.tape.trans h.tape, k.output.trans h.output, Nat.le_trans h.size k.size, fun i hi hc hv => (k.block i (Nat.lt_of_lt_of_le hi h.size) hc hv).trans (h.block i hi hc hv), fun i o hi => (k.fz i o (Nat.lt_of_lt_of_le hi h.size)).trans (h.fz i o hi)⟩
theorem alloc (h : Upd c v w w1) (o : Obj) : Upd c v w (w1.alloc o) :=
  h.trans ⟨rfl, rfl, rfl, by simp, fun k hk _ _ => Below.heap_alloc _ _ _ hk, fun k q hk => World.frozen?_of_block (Below.heap_alloc _ _ _ hk)⟩
theorem setC (h : Upd c v w w1) (o : Nat) (x : Value) : Upd c v w (w1.setCell ⟨c, o, none⟩ x) :=
  h.trans ⟨rfl, rfl, rfl, by rw [World.size_setCell]; exact Nat.le_refl _, fun k _ hc _ => Below.heap_setCell _ _ _ _ hc, fun k q _ => World.frozen?_setCell _ _ _ _⟩
theorem setV (h : Upd c v w w1) (o : Nat) (x : Value) : Upd c v w (w1.setCell ⟨v, o, none⟩ x) :=
  h.trans ⟨rfl, rfl, rfl, by rw [World.size_setCell]; exact Nat.le_refl _, fun k _ _ hv => Below.heap_setCell _ _ _ _ hv, fun k q _ => World.frozen?_setCell _ _ _ _⟩
theorem cell (h : Upd c v w w1) {a : Addr} (ha : a.block < w.heap.size) (hc : a.block ≠ c) (hv : a.block ≠ v) : w1.cell? a = w.cell? a := World.cell?_of_block (h.block _ ha hc hv)
/-- The same with the two blocks named among those that may turn, or new. -/
theorem widen {c' v' : Nat} (h : Upd c v w w1) {w0 : World} (h0 : Upd c' v' w0 w) (hc : w0.heap.size ≤ c ∨ c = c' ∨ c = v') (hv : w0.heap.size ≤ v ∨ v = c' ∨ v = v') : Upd c' v' w0 w1 :=
  ⟨h.os.trans h0.os, h.tape.trans h0.tape, h.output.trans h0.output, Nat.le_trans h0.size h.size, fun k hk h1 h2 => (h.block k (Nat.lt_of_lt_of_le hk h0.size) (by omega) (by omega)).trans (h0.block k hk h1 h2), fun i o hi => (h.fz i o (Nat.lt_of_lt_of_le hi h0.size)).trans (h0.fz i o hi)⟩
end Upd

/-- A variable that holds a part of a row of bytes. -/
def Cur (w : World) (a b off len cap : Nat) : Prop := ∃ ao, w.cell? ⟨a, 0, none⟩ = some (.slice ao len cap) ∧ len ≤ cap ∧ (0 < cap → ao = some ⟨b, off, none⟩)

theorem set_v {w : World} {c v : Nat} {z x : Value} (hc : w.cell? ⟨c, 0, none⟩ = some z) (hv : w.cell? ⟨v, 0, none⟩ = some x) (hcv : c ≠ v) (a : Value) :
    (w.setCell ⟨v, 0, none⟩ a).cell? ⟨c, 0, none⟩ = some z ∧ (w.setCell ⟨v, 0, none⟩ a).cell? ⟨v, 0, none⟩ = some a :=
  ⟨by rw [World.cell?_setCell_other _ _ _ _ (by intro e; exact hcv (congrArg Addr.block e).symm)]; exact hc, World.cell?_setCell_same _ _ _ hv⟩

theorem number_no (c v b off len cap : Nat) (size : Nat) (w : World) (hc : Cur w c b off len cap) (hs : len < size) :
    Calls Ybaf.prog 10 #[.pointer (some ⟨c, 0, none⟩), .int .i64 (size : Int), .pointer (some ⟨v, 0, none⟩)] w fun e w' => e = .returned (.bool false) ∧ w' = w := by
  obtain ⟨ao, h0, hl, _⟩ := hc
  have hs' : (len : Int) < (size : Int) := by omega
  go_enter Ybaf.func10, Ybaf.ntmps10
  go_wp2
  go_ret
  exact ⟨rfl, rfl⟩

set_option maxHeartbeats 1000000 in
theorem number2 (c v b off len cap : Nat) (b0 b1 : Nat) (x : Value) (w : World) (hc : Cur w c b off len cap) (h1 : w.cell? ⟨v, 0, none⟩ = some x) (hs2 : 2 ≤ len)
   (hf : w.frozen? ⟨v, 0, none⟩ = false) (hf2 : w.frozen? ⟨c, 0, none⟩ = false) (hcv : c ≠ v) (hbc : b ≠ c) (hbv : b ≠ v) (r0 : w.cell? ⟨b, off, none⟩ = some (.int .u8 (b0 : Int))) (r1 : w.cell? ⟨b, off + 1, none⟩ = some (.int .u8 (b1 : Int))) (g0 : b0 < 256) (g1 : b1 < 256) :
    Calls Ybaf.prog 10 #[.pointer (some ⟨c, 0, none⟩), .int .i64 2, .pointer (some ⟨v, 0, none⟩)] w fun e w' => e = .returned (.bool true) ∧ w'.cell? ⟨v, 0, none⟩ = some (.int .i64 ((b0 * 256 + b1 : Nat) : Int)) ∧ Cur w' c b (off + 2) (len - 2) (cap - 2) ∧ Upd c v w w' := by
  obtain ⟨ao, h0, hl, hao⟩ := hc
  obtain rfl := hao (by omega)
  have o0 := or_zero b0 g0
  have o1 := or_byte b0 b1 (by omega) g1
  have n1 := hcv.symm
  have n2 := hbc.symm
  have n3 := hbv.symm
  by_cases hcap : cap = 2
  all_goals
    try (subst hcap; obtain rfl : len = 2 := by omega)
    go_enter Ybaf.func10, Ybaf.ntmps10
    go_wp2_with fail
    refine wp_loop_rounds 3 ?_
    rw [rounds_succ]
    go_wp2
    rw [rounds_succ]
    go_wp2
    rw [rounds_succ]
    go_wp2
    go_ret
    obtain ⟨p1, q1⟩ := set_v h0 h1 hcv (.int .i64 0)
    obtain ⟨p2, q2⟩ := set_v p1 q1 hcv (.int .i64 (b0 : Int))
    obtain ⟨p3, q3⟩ := set_v p2 q2 hcv (.int .i64 ((b0 : Int) * 256 + (b1 : Int)))
    refine ⟨rfl, (set_v q3 p3 n1 _).1, ⟨_, (set_v q3 p3 n1 _).2, by omega, ?_⟩, (((((Upd.refl c v w).setV 0 _).setV 0 _).setV 0 _).setC 0 _)⟩
    intro hpos
    first | rfl | (exfalso; omega)

set_option maxHeartbeats 1000000 in
theorem number1 (c v b off len cap : Nat) (b0 : Nat) (x : Value) (w : World) (hc : Cur w c b off len cap) (h1 : w.cell? ⟨v, 0, none⟩ = some x) (hs2 : 1 ≤ len)
   (hf : w.frozen? ⟨v, 0, none⟩ = false) (hf2 : w.frozen? ⟨c, 0, none⟩ = false) (hcv : c ≠ v) (hbc : b ≠ c) (hbv : b ≠ v) (r0 : w.cell? ⟨b, off, none⟩ = some (.int .u8 (b0 : Int))) (g0 : b0 < 256) :
    Calls Ybaf.prog 10 #[.pointer (some ⟨c, 0, none⟩), .int .i64 1, .pointer (some ⟨v, 0, none⟩)] w fun e w' => e = .returned (.bool true) ∧ w'.cell? ⟨v, 0, none⟩ = some (.int .i64 (b0 : Int)) ∧ Cur w' c b (off + 1) (len - 1) (cap - 1) ∧ Upd c v w w' := by
  obtain ⟨ao, h0, hl, hao⟩ := hc
  obtain rfl := hao (by omega)
  have o0 := or_zero b0 g0
  have n1 := hcv.symm
  have n2 := hbc.symm
  have n3 := hbv.symm
  by_cases hcap : cap = 1
  all_goals
    try (subst hcap; obtain rfl : len = 1 := by omega)
    go_enter Ybaf.func10, Ybaf.ntmps10
    go_wp2_with fail
    refine wp_loop_rounds 2 ?_
    rw [rounds_succ]
    go_wp2
    rw [rounds_succ]
    go_wp2
    go_ret
    obtain ⟨p1, q1⟩ := set_v h0 h1 hcv (.int .i64 0)
    obtain ⟨p2, q2⟩ := set_v p1 q1 hcv (.int .i64 (b0 : Int))
    refine ⟨rfl, (set_v q2 p2 n1 _).1, ⟨_, (set_v q2 p2 n1 _).2, by omega, ?_⟩, ((((Upd.refl c v w).setV 0 _).setV 0 _).setC 0 _)⟩
    intro hpos
    first | rfl | (exfalso; omega)
end Go.Proofs.YbulkabacFmt
