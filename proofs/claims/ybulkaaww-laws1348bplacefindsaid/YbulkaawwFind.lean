/-
  The contract of find.
-/
import Derived.Test.YbulkaawwPlace
namespace Go.Proofs.Ybulkaaww
open Go.RowKit

theorem same_any (q : Nat) (a x : Int) (w : World) (hq : w.cell? ⟨q, 0, none⟩ = some (.int .i32 a)) :
    Calls Yba.prog 9 #[.int .i32 x, .pointer (some ⟨q, 0, none⟩)] w fun e w' => e = .returned (.bool (x == a)) ∧ w' = w := by
  go_enter Yba.func9, Yba.ntmps9
  go_wp2
  go_ret
  exact ⟨rfl, rfl⟩

set_option maxRecDepth 100000 in
set_option maxHeartbeats 2000000 in
theorem find_any (g base N : Nat) (tg : Bool) (F T : Nat → Int) (x q : Nat) (a : Int) (hN : 0 < N) (hN2 : N ≤ 393216) (hx : x < 18446744073709551616) (hF : ∀ s, 0 ≤ F s ∧ F s ≤ 100) (w : World) (h : Tab g base N tg F T w)
    (hq : w.cell? ⟨q, 0, none⟩ = some (.int .i32 a)) (hp : Path N tg F T (fst N x) a ((x % 256 : Nat) : Int)) :
    Calls Yba.prog 8 #[.pointer (some ⟨g, 0, none⟩), .int .u64 (x : Int), .func (.func 9) #[] #[.pointer (some ⟨q, 0, none⟩)]] w fun e w' => ∃ k : Nat, e = .returned (.tuple #[.int .i64 (k : Int), .int .i32 (a + 1)]) ∧ w' = w := by
  have hfl := fst_lt N x hx hN
  obtain ⟨d0, hd0, hheld, hat, htag⟩ := hp
  obtain ⟨bv, tv, bs, ts, h⟩ := h
  obtain ⟨rb, cb, rfl, _⟩ := h.gb.form (by omega)
  have e0 := h.c0
  have e1 := h.c1
  have e2 := h.c2
  have e3 := h.c3
  have HH : Hid _ := hheld
  have HA : Hid _ := hat
  have HT : Hid _ := htag
  have HF : Hid _ := hF
  clear hheld hat htag hF
  generalize hf : fst N x = f at *
  go_enter Yba.func8, Yba.ntmps8
  go_wp2_with (first | (go_at_call 11; refine (first_any g N x hx hN hN2 _ e2).mono ?_; rintro e w1 ⟨rfl, hw1⟩; rw [hw1]; clear hw1 w1))
  clear hf
  go_loopg [6] d0 (fun m k wr => wr = w ∧ ∃ d, d + m = d0 ∧ k = .int .i64 (((f + d) % N : Nat) : Int))
  case atStart => exact ⟨rfl, 0, by omega, by rw [Nat.add_zero, Nat.mod_eq_of_lt hfl]⟩
  case round =>
    obtain ⟨hwr, d, hd, rfl⟩ := hrel
    subst hwr
    have hkl : (f + d) % N < N := Nat.mod_lt _ hN
    obtain ⟨i, j, hdiv, hand, hiK, hjs', hjs, q0, q1, q2⟩ := h.read hN2 _ hkl
    have hnx := mod_next N f d
    have HD : Hid _ := hd
    have hne : (F ((f + d) % N) == 0) = false := beq_eq_false_iff_ne.2 (HH.out d (by omega))
    have hb := HF.out ((f + d) % N)
    have HL : Hid (d = d0 → F ((f + d) % N) = a + 1 ∧ (tg = true → T ((f + d) % N) = ((x % 256 : Nat) : Int))) := fun e => by rw [e]; exact ⟨HA.out, HT.out⟩
    have hle : d ≤ d0 := by omega
    clear hd
    generalize hk : (f + d) % N = k at *
    clear hk
    cases tg
    · by_cases hm : F k - 1 = a
      · have hm' : (F k - 1 == a) = true := beq_iff_eq.2 hm
        have HM : Hid _ := hm
        clear hm
        go_wp2_with (first | (go_at_call 9; refine (same_any q a _ _ hq).mono ?_; rintro e w1 ⟨rfl, hw1⟩; rw [hw1]; clear hw1 w1) | (go_at_call 12; refine (next_any g N k hkl hN2 _ e2).mono ?_; rintro e w1 ⟨rfl, hw1⟩; rw [hw1]; clear hw1 w1))
        go_ret2
        exact ⟨k, by rw [show a + 1 = F k from by have := HM.out; omega]; rfl, rfl⟩
      · have hm' : (F k - 1 == a) = false := beq_eq_false_iff_ne.2 hm
        have hlt : d < d0 := by
          rcases Nat.lt_or_ge d d0 with h | h
          · exact h
          · exact absurd (HL.out (by omega)).1 (by omega)
        clear hm
        go_wp2_with (first | (go_at_call 9; refine (same_any q a _ _ hq).mono ?_; rintro e w1 ⟨rfl, hw1⟩; rw [hw1]; clear hw1 w1) | (go_at_call 12; refine (next_any g N k hkl hN2 _ e2).mono ?_; rintro e w1 ⟨rfl, hw1⟩; rw [hw1]; clear hw1 w1))
        go_roundg (gk - 1)
        case measure => have := HD.out; omega
        case rel => exact ⟨rfl, d + 1, by have := HD.out; omega, by simp⟩
    · obtain ⟨rt, ct, rfl, _⟩ := (h.gt rfl).form (by omega)
      obtain ⟨q3, q4⟩ := q2 rfl rt ct rfl
      clear q2
      by_cases ht : T k = ((x % 256 : Nat) : Int)
      · have ht' : (T k == (x : Int) % 256) = true := beq_iff_eq.2 (by rw [ht]; rfl)
        clear ht
        by_cases hm : F k - 1 = a
        · have hm' : (F k - 1 == a) = true := beq_iff_eq.2 hm
          have HM : Hid _ := hm
          clear hm
          go_wp2_with (first | (go_at_call 9; refine (same_any q a _ _ hq).mono ?_; rintro e w1 ⟨rfl, hw1⟩; rw [hw1]; clear hw1 w1) | (go_at_call 12; refine (next_any g N k hkl hN2 _ e2).mono ?_; rintro e w1 ⟨rfl, hw1⟩; rw [hw1]; clear hw1 w1))
          go_ret2
          exact ⟨k, by rw [show a + 1 = F k from by have := HM.out; omega]; rfl, rfl⟩
        · have hm' : (F k - 1 == a) = false := beq_eq_false_iff_ne.2 hm
          have hlt : d < d0 := by
            rcases Nat.lt_or_ge d d0 with h | h
            · exact h
            · exact absurd (HL.out (by omega)).1 (by omega)
          clear hm
          go_wp2_with (first | (go_at_call 9; refine (same_any q a _ _ hq).mono ?_; rintro e w1 ⟨rfl, hw1⟩; rw [hw1]; clear hw1 w1) | (go_at_call 12; refine (next_any g N k hkl hN2 _ e2).mono ?_; rintro e w1 ⟨rfl, hw1⟩; rw [hw1]; clear hw1 w1))
          go_roundg (gk - 1)
          case measure => have := HD.out; omega
          case rel => exact ⟨rfl, d + 1, by have := HD.out; omega, by simp⟩
      · have hlt : d < d0 := by
          rcases Nat.lt_or_ge d d0 with h | h
          · exact h
          · exact absurd ((HL.out (by omega)).2 rfl) ht
        have ht' : (T k == (x : Int) % 256) = false := beq_eq_false_iff_ne.2 (fun e => ht (by rw [e]; rfl))
        clear ht
        go_wp2_with (first | (go_at_call 9; refine (same_any q a _ _ hq).mono ?_; rintro e w1 ⟨rfl, hw1⟩; rw [hw1]; clear hw1 w1) | (go_at_call 12; refine (next_any g N k hkl hN2 _ e2).mono ?_; rintro e w1 ⟨rfl, hw1⟩; rw [hw1]; clear hw1 w1))
        go_roundg (gk - 1)
        case measure => have := HD.out; omega
        case rel => exact ⟨rfl, d + 1, by have := HD.out; omega, by simp⟩
end Go.Proofs.Ybulkaaww
