/-
  The contract of place.
-/
import Derived.Test.YbulkaawwTab
import Derived.Deep.LoopGhost
namespace Go.Proofs.Ybulkaaww
open Go.RowKit

/-- What the walk reads of one slot. -/
theorem TabAt.read {g base N : Nat} {tg : Bool} {F T : Nat → Int} {tv : Value} {bs ts : Nat → Nat} {w : World} {rb cb : Nat} (h : TabAt g base N tg F T (.slice (some ⟨rb, 0, none⟩) ((N + 16383) / 16384) cb) tv bs ts w) (hN2 : N ≤ 393216) (k : Nat) (hk : k < N) :
    ∃ i j : Nat, (k : Int) / 16384 = (i : Int) ∧ bits .and .i64 (k : Int) 16383 = (j : Int) ∧ i < (N + 16383) / 16384 ∧ (j : Int) < (sz N i : Int) ∧ j < sz N i ∧
      w.cell? ⟨rb, i, none⟩ = some (.slice (some ⟨bs i, 0, none⟩) (sz N i) (sz N i)) ∧ w.cell? ⟨bs i, j, none⟩ = some (.int .i32 (F k)) ∧
      (tg = true → ∀ rt ct, tv = .slice (some ⟨rt, 0, none⟩) ((N + 16383) / 16384) ct → w.cell? ⟨rt, i, none⟩ = some (.slice (some ⟨ts i, 0, none⟩) (sz N i) (sz N i)) ∧ w.cell? ⟨ts i, j, none⟩ = some (.int .u8 (T k))) := by
  obtain ⟨i, j, hdiv, hand, HK, hjl, hiK, hjs⟩ := slot_parts N k hk hN2
  refine ⟨i, j, hdiv, hand, hiK, by omega, hjs, h.gb.cell rfl hiK, ?_, fun ht rt ct htv => ⟨(h.gt ht).cell htv hiK, ?_⟩⟩
  · rw [HK.out]; exact h.gb.slot hiK hjs
  · rw [HK.out]; exact (h.gt ht).slot hiK hjs

theorem mod_next (N f d : Nat) : ((f + d) % N + 1) % N = (f + (d + 1)) % N := by
  rw [Nat.mod_add_mod, Nat.add_assoc]

set_option maxRecDepth 100000 in
set_option maxHeartbeats 1000000 in
theorem place_any (g base N : Nat) (tg : Bool) (F T : Nat → Int) (x : Nat) (n : Int) (hN : 0 < N) (hN2 : N ≤ 393216) (hx : x < 18446744073709551616) (hn : 0 ≤ n) (hn2 : n < 100) (hc : cnt F N < N) (w : World) (h : Tab g base N tg F T w) :
    Calls Yba.prog 7 #[.pointer (some ⟨g, 0, none⟩), .int .u64 (x : Int), .int .i32 n] w fun e w' => e = .returned (.tuple #[]) ∧
      ∃ k, k < N ∧ F k = 0 ∧ Path N tg (upd F k (n + 1)) (updT tg T k ((x % 256 : Nat) : Int)) (fst N x) n ((x % 256 : Nat) : Int) ∧ Tab g base N tg (upd F k (n + 1)) (updT tg T k ((x % 256 : Nat) : Int)) w' ∧ Below base w w' := by
  have hfl := fst_lt N x hx hN
  obtain ⟨d0, hd0, hfree, hheld⟩ := free_from F N (fst N x) hfl hc
  have HP : Hid _ := path_new (tg := tg) (T := T) (tag := ((x % 256 : Nat) : Int)) hn hd0 hheld
  have HF : Hid _ := hfree
  have HH : Hid _ := hheld
  clear hfree hheld
  have HT : Hid _ := h
  obtain ⟨bv, tv, bs, ts, h⟩ := h
  obtain ⟨rb, cb, rfl, _⟩ := h.gb.form (by omega)
  have e0 := h.c0
  have e2 := h.c2
  generalize hf : fst N x = f at *
  go_enter Yba.func7, Yba.ntmps7
  go_wp2_with (first | (go_at_call 11; refine (first_any g N x hx hN hN2 _ e2).mono ?_; rintro e w1 ⟨rfl, hw1⟩; rw [hw1]; clear hw1 w1))
  clear hf
  go_loopg [6] d0 (fun m k wr => wr = w ∧ ∃ d, d + m = d0 ∧ k = .int .i64 (((f + d) % N : Nat) : Int))
  case atStart => exact ⟨rfl, 0, by omega, by rw [Nat.add_zero, Nat.mod_eq_of_lt hfl]⟩
  case round =>
    obtain ⟨hwr, d, hd, rfl⟩ := hrel
    subst hwr
    have hkl : (f + d) % N < N := Nat.mod_lt _ hN
    obtain ⟨i, j, hdiv, hand, hiK, hjs', hjs, q0, q1, _⟩ := h.read hN2 _ hkl
    have hnx := mod_next N f d
    have HD : Hid _ := hd
    by_cases hlt : d < d0
    · have hne : (F ((f + d) % N) != 0) = true := by rw [bne_iff_ne]; exact HH.out d hlt
      clear hd
      generalize hk : (f + d) % N = k at *
      clear hk
      go_wp2_with (first | (go_at_call 12; refine (next_any g N k hkl hN2 _ e2).mono ?_; rintro e w1 ⟨rfl, hw1⟩; rw [hw1]; clear hw1 w1))
      go_roundg (gk - 1)
      case measure => have := HD.out; omega
      case rel => exact ⟨rfl, d + 1, by have := HD.out; omega, by simp⟩
    · have hdd : d = d0 := by omega
      have hne : (F ((f + d) % N) != 0) = false := by rw [hdd]; simp [HF.out]
      have HP2 : Hid (F ((f + d) % N) = 0 ∧ Path N tg (upd F ((f + d) % N) (n + 1)) (updT tg T ((f + d) % N) ((x % 256 : Nat) : Int)) f n ((x % 256 : Nat) : Int)) := by rw [hdd]; exact ⟨HF.out, HP.out⟩
      clear hd hdd hnx
      generalize hk : (f + d) % N = k at *
      clear hk
      go_wp2_with (first | (go_at_call 13; refine (set_any g base N tg F T k x n hkl hN2 hn hn2 _ HT.out).mono ?_; rintro e w' ⟨rfl, hT, hB⟩))
      go_returns
      exact ⟨rfl, k, hkl, HP2.out.1, HP2.out.2, hT, hB⟩
end Go.Proofs.Ybulkaaww
