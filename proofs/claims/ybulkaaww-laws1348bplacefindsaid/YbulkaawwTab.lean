/-
  The table in memory; the contracts of Mul64, first, next and set.
-/
import Derived.Test.YbulkaawwGrid
import Derived.Test.YbulkaawwPlain
import Derived.WalkKit
import Derived.ProofKit
import Derived.Handy
import Derived.WalkSpells
import Derived.Lib.Mul64
import Derived.Laws.Bits64b
namespace Go.Proofs.Ybulkaaww
open Go.RowKit

theorem maskN (a : Nat) (ha : a < 18446744073709551616) : bits .and .u64 (a : Int) 4294967295 = ((a % 4294967296 : Nat) : Int) := by
  have h := bits_and_u64_nat a 4294967295 ha (by omega)
  have e : a &&& 4294967295 = a % 4294967296 := Nat.and_two_pow_sub_one_eq_mod a 32
  rw [e] at h
  exact h
theorem divN (a : Nat) : (a : Int) / 4294967296 = ((a / 4294967296 : Nat) : Int) := by omega
theorem mulN (a b : Nat) : (a : Int) * (b : Int) = ((a * b : Nat) : Int) := (Int.natCast_mul a b).symm
theorem addN (a b : Nat) : (a : Int) + (b : Int) = ((a + b : Nat) : Int) := (Int.natCast_add a b).symm
theorem wrapN (a : Nat) (ha : a < 18446744073709551616) : IntKind.u64.wrap (a : Int) = (a : Int) := by rw [IntKind.wrap_u64]; omega
theorem wrapM (a : Nat) : IntKind.u64.wrap (a : Int) = ((a % 18446744073709551616 : Nat) : Int) := by rw [IntKind.wrap_u64]; omega

set_option maxHeartbeats 1000000 in
theorem mul64_any (x y : Nat) (hx : x < 18446744073709551616) (hy : y < 18446744073709551616) (w : World) :
    Calls Yba.prog 14 #[.int .u64 x, .int .u64 y] w fun e w' => e = .returned (.tuple #[.int .u64 ((x * y / 18446744073709551616 : Nat) : Int), .int .u64 ((x * y % 18446744073709551616 : Nat) : Int)]) ∧ w' = w := by
  obtain ⟨bd, bt, bw, hhi⟩ := Lib.mul64_hi x y hx hy
  have ba := Lib.half_mul_le (a := x / 4294967296) (b := y / 4294967296) (by omega) (by omega)
  have bb := Lib.half_mul_le (a := x / 4294967296) (b := y % 4294967296) (by omega) (by omega)
  have bc := Lib.half_mul_le (a := x % 4294967296) (b := y / 4294967296) (by omega) (by omega)
  have ba' : x / 4294967296 * (y / 4294967296) < 18446744073709551616 := by omega
  have bb' : x / 4294967296 * (y % 4294967296) < 18446744073709551616 := by omega
  have bc' : x % 4294967296 * (y / 4294967296) < 18446744073709551616 := by omega
  have bh1 : x / 4294967296 * (y / 4294967296) + (x / 4294967296 * (y % 4294967296) + x % 4294967296 * (y % 4294967296) / 4294967296) / 4294967296 < 18446744073709551616 := by omega
  have bh : x / 4294967296 * (y / 4294967296) + (x / 4294967296 * (y % 4294967296) + x % 4294967296 * (y % 4294967296) / 4294967296) / 4294967296 + ((x / 4294967296 * (y % 4294967296) + x % 4294967296 * (y % 4294967296) / 4294967296) % 4294967296 + x % 4294967296 * (y / 4294967296)) / 4294967296 < 18446744073709551616 := by omega
  go_enter Yba.func14, Yba.ntmps14
  go_wp2
  simp only [maskN x hx, maskN y hy, divN, mulN, addN, wrapN _ bd, wrapN _ bb', wrapN _ bt, maskN _ bt, wrapN _ bc', wrapN _ bw, wrapN _ ba', wrapN _ bh1, wrapN _ bh, wrapM (x * y)]
  rw [hhi]
  go_ret2
  exact ⟨rfl, rfl⟩

/-- The slot that a hash picks in a table of N slots. -/
def fst (N x : Nat) : Nat := x * N / 18446744073709551616

theorem fst_lt (N x : Nat) (hx : x < 18446744073709551616) (hN : 0 < N) : fst N x < N := by
  unfold fst
  rw [Nat.div_lt_iff_lt_mul (by omega)]
  rw [Nat.mul_comm N]
  exact (Nat.mul_lt_mul_right hN).2 hx

def low (N x : Nat) : Nat := x * N % 18446744073709551616

theorem mul64_fst (x N : Nat) (hx : x < 18446744073709551616) (hN : N < 18446744073709551616) (w : World) :
    Calls Yba.prog 14 #[.int .u64 x, .int .u64 N] w fun e w' => e = .returned (.tuple #[.int .u64 (fst N x : Int), .int .u64 (low N x : Int)]) ∧ w' = w :=
  mul64_any x N hx hN w

theorem first_any (g N x : Nat) (hx : x < 18446744073709551616) (hN : 0 < N) (hN2 : N ≤ 393216) (w : World) (e2 : w.cell? ⟨g, 2, none⟩ = some (.int .i64 (N : Int))) :
    Calls Yba.prog 11 #[.pointer (some ⟨g, 0, none⟩), .int .u64 (x : Int)] w fun e w' => e = .returned (.int .i64 (fst N x : Int)) ∧ w' = w := by
  have hlt := fst_lt N x hx hN
  go_enter Yba.func11, Yba.ntmps11
  go_wp2_with (first | (go_at_call 14; refine (mul64_fst x N hx (by omega) _).mono ?_; rintro e w' ⟨rfl, rfl⟩))
  go_ret
  exact ⟨rfl, rfl⟩

theorem next_any (g N k : Nat) (hk : k < N) (hN2 : N ≤ 393216) (w : World) (e2 : w.cell? ⟨g, 2, none⟩ = some (.int .i64 (N : Int))) :
    Calls Yba.prog 12 #[.pointer (some ⟨g, 0, none⟩), .int .i64 (k : Int)] w fun e w' => e = .returned (.int .i64 (((k + 1) % N : Nat) : Int)) ∧ w' = w := by
  by_cases h : k + 1 = N
  · have h' : ((k : Int) + 1 == (N : Int)) = true := beq_iff_eq.2 (by omega)
    have H : Hid ((k + 1) % N = 0) := by unfold Hid; rw [h]; exact Nat.mod_self N
    clear h
    go_enter Yba.func12, Yba.ntmps12
    go_wp2
    go_ret
    exact ⟨by rw [H.out]; rfl, rfl⟩
  · have h' : ((k : Int) + 1 == (N : Int)) = false := beq_eq_false_iff_ne.2 (by omega)
    have H : Hid ((k + 1) % N = k + 1) := Nat.mod_eq_of_lt (by omega)
    clear h
    go_enter Yba.func12, Yba.ntmps12
    go_wp2
    go_ret
    exact ⟨by rw [H.out]; rfl, rfl⟩

theorem and_i64 (k : Nat) (hk : k ≤ 393216) : bits .and .i64 (k : Int) 16383 = ((k % 16384 : Nat) : Int) := by
  have e : k &&& 16383 = k % 16384 := Nat.and_two_pow_sub_one_eq_mod k 14
  have h1 : (BitVec.ofInt 64 (k : Int)).toNat = k := by
    rw [BitVec.ofInt_natCast, BitVec.toNat_ofNat]; exact Nat.mod_eq_of_lt (by omega)
  have h2 : (BitVec.ofInt 64 (16383 : Int)).toNat = 16383 := by decide
  show IntKind.i64.wrap ((BitVec.ofInt 64 (k : Int) &&& BitVec.ofInt 64 (16383 : Int)).toNat : Int) = _
  rw [BitVec.toNat_and, h1, h2, e, IntKind.wrap_i64]
  omega

theorem own_setOther {w : World} {base : Nat} {e : TypeId} {size : Nat} {v : Value} {n : Nat} {xs : List Value} (h : w.ownsRow base e size v n xs) {a : Addr} (ha : v.ownBlock ≠ some a.block) (u : Value) : (w.setCell a u).ownsRow base e size v n xs := by
  obtain ⟨h1, h2⟩ := h
  refine ⟨h1, ?_⟩
  rcases h2 with h2 | ⟨g, cap, cur, rfl, hg, hh, r⟩
  · exact Or.inl h2
  · refine Or.inr ⟨g, cap, cur, rfl, hg, ?_, r⟩
    rw [Below.heap_setCell _ _ _ _ (fun e => ha (by rw [← e]; rfl))]
    exact hh

namespace Grid
variable {w : World} {base : Nat} {er et : TypeId} {N k : Nat} {v : Value} {bs : Nat → Nat} {F : Nat → Value}

theorem setFar (h : Grid w base er et N k v bs F) {a : Addr} (h1 : tyAt w a.block ≠ some er) (h2 : tyAt w a.block ≠ some et) (u : Value) : Grid (w.setCell a u) base er et N k v bs F :=
  ⟨own_setOther h.own (fun e => h1 (tyAt_own h.own e)) u, fun i hi => (h.row i hi).setOther (fun e => h2 (by rw [← e]; exact tyAt_row (h.row i hi))) u, h.lo, h.inj⟩

theorem set (h : Grid w base er et N k v bs F) (hne : er ≠ et) {i j : Nat} (hi : i < k) (hj : j < 16384) (u : Value) : Grid (w.setCell ⟨bs i, j, none⟩ u) base er et N k v bs (upd F (16384 * i + j) u) := by
  refine ⟨own_setOther h.own (fun e => ?_) u, fun i' hi' => ?_, h.lo, h.inj⟩
  · have h1 := tyAt_own h.own e
    have h2 := tyAt_row (h.row i hi)
    rw [h1] at h2
    exact hne (Option.some.inj h2)
  · by_cases hii : i' = i
    · subst hii
      refine ((h.row i' hi).set j u).congr fun j' hj' => ?_
      have := sz_le N i'
      simp only [upd]
      by_cases hjj : j' = j
      · subst hjj; simp
      · rw [if_neg hjj, if_neg (by omega)]
    · have hb : bs i' ≠ bs i := by
        rcases Nat.lt_or_gt_of_ne hii with hl | hl
        · have := h.inj i' i hl hi; omega
        · have := h.inj i i' hl hi'; omega
      refine ((h.row i' hi').setOther (a := ⟨bs i, j, none⟩) hb u).congr fun j' hj' => ?_
      have := sz_le N i'
      simp only [upd]
      rw [if_neg (by omega)]
end Grid


/-- The table in memory: N slots, slot s holding F s and, where it is tagged, the tag T s. -/
structure TabAt (g base N : Nat) (tg : Bool) (F T : Nat → Int) (bv tv : Value) (bs ts : Nat → Nat) (w : World) : Prop where
  c0 : w.cell? ⟨g, 0, none⟩ = some bv
  c1 : w.cell? ⟨g, 1, none⟩ = some tv
  c2 : w.cell? ⟨g, 2, none⟩ = some (.int .i64 (N : Int))
  c3 : w.cell? ⟨g, 3, none⟩ = some (.bool tg)
  gb : Grid w base 23 21 N ((N + 16383) / 16384) bv bs (fun s => .int .i32 (F s))
  gt : tg = true → Grid w base 25 5 N ((N + 16383) / 16384) tv ts (fun s => .int .u8 (T s))
  lo : g < base
  hi : base ≤ w.heap.size

def Tab (g base N : Nat) (tg : Bool) (F T : Nat → Int) (w : World) : Prop := ∃ bv tv bs ts, TabAt g base N tg F T bv tv bs ts w

section
variable {g base N : Nat} {tg : Bool} {F T : Nat → Int} {bv tv : Value} {bs ts : Nat → Nat} {w : World}

theorem TabAt.alloc (h : TabAt g base N tg F T bv tv bs ts w) (o : Obj) : TabAt g base N tg F T bv tv bs ts (w.alloc o) := by
  have hl : g < w.heap.size := by have := h.lo; have := h.hi; omega
  have hc : ∀ q, (w.alloc o).cell? ⟨g, q, none⟩ = w.cell? ⟨g, q, none⟩ := fun q => World.cell?_of_block (Below.heap_alloc w o g hl)
  refine ⟨by rw [hc, h.c0], by rw [hc, h.c1], by rw [hc, h.c2], by rw [hc, h.c3], h.gb.alloc o, fun e => (h.gt e).alloc o, h.lo, ?_⟩
  have := h.hi
  simp
  omega

theorem far_cell {a : Addr} (ha : g ≠ a.block) (u : Value) (q : Nat) : (w.setCell a u).cell? ⟨g, q, none⟩ = w.cell? ⟨g, q, none⟩ :=
  World.cell?_of_block (a := ⟨g, q, none⟩) (Below.heap_setCell w a u g ha)

theorem TabAt.set1 (h : TabAt g base N tg F T bv tv bs ts w) {i j : Nat} (hi : i < (N + 16383) / 16384) (hj : j < 16384) (n : Int) :
    TabAt g base N tg (upd F (16384 * i + j) n) T bv tv bs ts (w.setCell ⟨bs i, j, none⟩ (.int .i32 n)) := by
  have hlo := h.gb.lo i hi
  have hg := h.lo
  have hc : ∀ q, (w.setCell ⟨bs i, j, none⟩ (.int .i32 n)).cell? ⟨g, q, none⟩ = w.cell? ⟨g, q, none⟩ := fun q => far_cell (by show g ≠ bs i; omega) _ q
  have ht : tyAt w (bs i) = some 21 := tyAt_row (h.gb.row i hi)
  have e : (fun s => Value.int .i32 (upd F (16384 * i + j) n s)) = upd (fun s => Value.int .i32 (F s)) (16384 * i + j) (.int .i32 n) := by
    funext s; simp only [upd]; split <;> rfl
  refine ⟨by rw [hc, h.c0], by rw [hc, h.c1], by rw [hc, h.c2], by rw [hc, h.c3], by rw [e]; exact h.gb.set (by decide) hi hj _, fun e => (h.gt e).setFar (a := ⟨bs i, j, none⟩) (by show tyAt w (bs i) ≠ _; rw [ht]; decide) (by show tyAt w (bs i) ≠ _; rw [ht]; decide) _, h.lo, ?_⟩
  rw [World.size_setCell]
  exact h.hi

theorem TabAt.set2 (h : TabAt g base N true F T bv tv bs ts w) {i j : Nat} (hi : i < (N + 16383) / 16384) (hj : j < 16384) (n : Int) :
    TabAt g base N true F (upd T (16384 * i + j) n) bv tv bs ts (w.setCell ⟨ts i, j, none⟩ (.int .u8 n)) := by
  have hlo := (h.gt rfl).lo i hi
  have hg := h.lo
  have hc : ∀ q, (w.setCell ⟨ts i, j, none⟩ (.int .u8 n)).cell? ⟨g, q, none⟩ = w.cell? ⟨g, q, none⟩ := fun q => far_cell (by show g ≠ ts i; omega) _ q
  have ht : tyAt w (ts i) = some 5 := tyAt_row ((h.gt rfl).row i hi)
  have e : (fun s => Value.int .u8 (upd T (16384 * i + j) n s)) = upd (fun s => Value.int .u8 (T s)) (16384 * i + j) (.int .u8 n) := by
    funext s; simp only [upd]; split <;> rfl
  refine ⟨by rw [hc, h.c0], by rw [hc, h.c1], by rw [hc, h.c2], by rw [hc, h.c3], h.gb.setFar (a := ⟨ts i, j, none⟩) (by show tyAt w (ts i) ≠ _; rw [ht]; decide) (by show tyAt w (ts i) ≠ _; rw [ht]; decide) _, fun _ => by rw [e]; exact (h.gt rfl).set (by decide) hi hj _, h.lo, ?_⟩
  rw [World.size_setCell]
  exact h.hi
end

/-- The facts on one slot, for the walk. -/
theorem slot_parts (N k : Nat) (hk : k < N) (hN2 : N ≤ 393216) : ∃ i j : Nat, (k : Int) / 16384 = (i : Int) ∧ bits .and .i64 (k : Int) 16383 = (j : Int) ∧ Hid (k = 16384 * i + j) ∧ j < 16384 ∧ i < (N + 16383) / 16384 ∧ j < sz N i := by
  refine ⟨k / 16384, k % 16384, by omega, and_i64 k (by omega), by unfold Hid; omega, by omega, by omega, by unfold sz; omega⟩

set_option maxHeartbeats 1000000 in
theorem set_any (g base N : Nat) (tg : Bool) (F T : Nat → Int) (k x : Nat) (n : Int) (hk : k < N) (hN2 : N ≤ 393216) (hn : 0 ≤ n) (hn2 : n < 100) (w : World) (h : Tab g base N tg F T w) :
    Calls Yba.prog 13 #[.pointer (some ⟨g, 0, none⟩), .int .i64 (k : Int), .int .i32 n, .int .u64 (x : Int)] w fun e w' => e = .returned (.tuple #[]) ∧ Tab g base N tg (upd F k (n + 1)) (updT tg T k ((x % 256 : Nat) : Int)) w' ∧ Below base w w' := by
  obtain ⟨bv, tv, bs, ts, h⟩ := h
  obtain ⟨i, j, hdiv, hand, HK, hjl, hiK, hjs⟩ := slot_parts N k hk hN2
  have hjs' : (j : Int) < (sz N i : Int) := by omega
  have hlo := h.gb.lo i hiK
  obtain ⟨rb, cb, rfl, _⟩ := h.gb.form (by omega)
  have e0 := h.c0
  have e3 := h.c3
  have c0 : w.cell? ⟨rb, i, none⟩ = some (.slice (some ⟨bs i, 0, none⟩) (sz N i) (sz N i)) := h.gb.cell rfl hiK
  have s0 := h.gb.slot hiK hjs
  have f0 := (h.gb.row i hiK).frozen j
  have H1 := h.set1 hiK hjl (n + 1)
  have e3' := H1.c3
  cases tg
  · have HF : Hid (Tab g base N false (upd F k (n + 1)) T (w.setCell ⟨bs i, j, none⟩ (.int .i32 (n + 1)))) := ⟨_, _, _, _, by rw [HK.out]; exact H1⟩
    clear h H1
    go_enter Yba.func13, Yba.ntmps13
    go_wp2
    go_returns
    exact ⟨rfl, HF.out, (Below.refl _ _).setCell (p := ⟨bs i, j, none⟩) hlo _⟩
  · have hlo2 := (h.gt rfl).lo i hiK
    obtain ⟨rt, ct, rfl, _⟩ := (h.gt rfl).form (by omega)
    have e1' := H1.c1
    have c1 : (w.setCell ⟨bs i, j, none⟩ (.int .i32 (n + 1))).cell? ⟨rt, i, none⟩ = some (.slice (some ⟨ts i, 0, none⟩) (sz N i) (sz N i)) := (H1.gt rfl).cell rfl hiK
    have s1 := (H1.gt rfl).slot hiK hjs
    have f1 := ((H1.gt rfl).row i hiK).frozen j
    have HF : Hid (Tab g base N true (upd F k (n + 1)) (upd T k ((x % 256 : Nat) : Int)) ((w.setCell ⟨bs i, j, none⟩ (.int .i32 (n + 1))).setCell ⟨ts i, j, none⟩ (.int .u8 ((x % 256 : Nat) : Int)))) := ⟨_, _, _, _, by rw [HK.out]; exact H1.set2 hiK hjl ((x % 256 : Nat) : Int)⟩
    clear h H1
    go_enter Yba.func13, Yba.ntmps13
    go_wp2
    go_returns
    exact ⟨rfl, HF.out, ((Below.refl _ _).setCell (p := ⟨bs i, j, none⟩) hlo _).setCell (p := ⟨ts i, j, none⟩) hlo2 _⟩
end Go.Proofs.Ybulkaaww
