/-
  The walk of LawS1348BShape.
-/
import Derived.Test.YbulkaawwGrow
import Derived.Handy
import Derived.WalkSpells
import Derived.BigQuiet
import Derived.Deep.QuietTactic
import Derived.Deep.DeepCutAuto
namespace Go.Proofs.Ybulkaaww
open Go.RowKit
theorem want_cases (n : Int) (N : Nat) (hn : -1048576 ≤ n) (h : (16 < (n * 3).tdiv 2 ∧ (n * 3).tdiv 2 = (N : Int)) ∨ ((n * 3).tdiv 2 ≤ 16 ∧ N = 16)) :
    16 ≤ N ∧ ((n + n.tdiv 2 = (N : Int)) ∨ (n + n.tdiv 2 < 16 ∧ (16 : Int) = (N : Int))) := by
  rcases Int.lt_or_le n 0 with h0 | h0
  · have e1 : (n * 3).tdiv 2 = - ((-(n * 3)).tdiv 2) := by rw [Int.neg_tdiv]; omega
    have e2 : n.tdiv 2 = - ((-n).tdiv 2) := by rw [Int.neg_tdiv]; omega
    rw [e1, Int.tdiv_eq_ediv_of_nonneg (by omega)] at h
    rw [e2, Int.tdiv_eq_ediv_of_nonneg (by omega)]
    omega
  · rw [Int.tdiv_eq_ediv_of_nonneg (by omega)] at h
    rw [Int.tdiv_eq_ediv_of_nonneg (by omega)]
    omega

theorem half_bound (n : Int) (h : -1048576 ≤ n) (h' : n ≤ 262144) : -524288 ≤ n.tdiv 2 ∧ n.tdiv 2 ≤ 131072 := by
  rcases Int.lt_or_le n 0 with h0 | h0
  · have e2 : n.tdiv 2 = - ((-n).tdiv 2) := by rw [Int.neg_tdiv]; omega
    rw [e2, Int.tdiv_eq_ediv_of_nonneg (by omega)]
    omega
  · rw [Int.tdiv_eq_ediv_of_nonneg (by omega)]
    omega

set_option maxRecDepth 100000 in
set_option maxHeartbeats 4000000 in
/-- The law's walk, n in its range. -/
theorem shape_in (n : Int) (tg : Bool) (w : World) (hn : -1048576 ≤ n) (hn' : n ≤ 262144) :
    Calls Yba.prog 3 #[.int .i64 n, .bool tg] w fun e w' => e = .returned (.bool true) ∧ Below w.heap.size w w' := by
  go_enter Yba.func3, Yba.ntmps3
  go_wp2_with fail
  refine (grow_any (w.heap.size + 1 + 1 + 1 + 1) n tg _ _ _ (by simp [go_sem]; rfl) (by simp [go_sem]; rfl) (by simp [go_sem]; try rfl) (by simp [go_sem]; try rfl) (by intro o; simp [go_sem]) hn hn' (w.heap.size + 1 + 1 + 1 + 1 + 1) (by simp) (by omega)).mono ?_
  rintro e w' ⟨rfl, N, hN, hN2, ⟨bv, tv, c2, bs, ts, e0, e1, _, e3, fz, gb, gt, hbel, hsz, _⟩, e2⟩
  have hB : Hid (Below w.heap.size w w') := Below.trans (by go_grown) (hbel.mono (by omega))
  clear hbel
  obtain ⟨hN16, hw⟩ := want_cases n N hn hN
  have hn0 : ((N : Int) == 0) = false := beq_eq_false_iff_ne.2 (by omega)
  clear hN
  generalize w.heap.size + 1 + 1 + 1 + 1 = g at *
  clear hsz
  have hd := half_bound n hn hn'
  go_upto_if 38 with fail
  go_cut [6] (fun s wc => s = .int .i64 (N : Int) ∧ wc = w')
  case first =>
    rcases hw with hw | ⟨hw, hw16⟩
    · have hw' : ¬ n + n.tdiv 2 < 16 := by omega
      go_wp2_with fail
      go_meet
      case rel => exact ⟨by go_num, rfl⟩
    · have HX : Hid ((16 : Int) = (N : Int)) := hw16
      clear hw16
      go_wp2_with fail
      go_meet
      case rel => exact ⟨by rw [← HX.out], rfl⟩
  case rest =>
    obtain ⟨rfl, rfl⟩ := hcut
    clear hw
    go_upto_region 11 with (first | (go_at_call 6; refine (empty_any _ _ _ e2).mono ?_; rintro e w' ⟨rfl, rfl⟩))
    have hK : ((N : Int) + 16384 - 1) / 16384 = (((N + 16383) / 16384 : Nat) : Int) := by omega
    have hKN : 16384 * ((N + 16383) / 16384) < N + 16384 ∧ N ≤ 16384 * ((N + 16383) / 16384) := by omega
    rw [hK]
    clear hK
    generalize (N + 16383) / 16384 = K at *
    obtain ⟨rb, cb, rfl, _⟩ := gb.form (by omega)
    have Hb1 : Hid _ := fun i (hi : i < K) => gb.cell rfl hi
    have Hb2 : Hid _ := fun i j (hi : i < K) (hj : j < sz N i) => gb.slot hi hj
    clear gb
    cases tg
    · rw [if_neg (by decide)] at gt
      subst gt
      have hneq := fun w => run_neq_slice_nil_any (P := Yba.prog) w 26 25 none 0 0 0 0 Yba.underlying26
      go_wp2_with fail
      go_loop [8, 78] (fun t i => ∃ k : Nat, k ≤ K ∧ i = .int .i64 (k : Int) ∧ t = .int .i64 ((min (16384 * k) N : Nat) : Int)) (fun _ i => K - (intOf i).toNat)
      case atStart => exact ⟨0, Nat.zero_le _, rfl, by simp⟩
      case round =>
        obtain ⟨k, hk, rfl, rfl⟩ := hrel
        by_cases hlt : k < K
        · have hc : w'.cell? ⟨rb, k, none⟩ = some (.slice (some ⟨bs k, 0, none⟩) (sz N k) (sz N k)) := Hb1.out k hlt
          have hsl := sz_le N k
          have hmin : min (16384 * k) N ≤ 393216 := by omega
          have HT : Hid (((min (16384 * k) N : Nat) : Int) + (sz N k : Int) = ((min (16384 * (k + 1)) N : Nat) : Int)) := by unfold Hid sz; omega
          have hse : (16384 < (N : Int) - (k : Int) * 16384 ∧ (sz N k : Int) = 16384) ∨ ((N : Int) - (k : Int) * 16384 ≤ 16384 ∧ (sz N k : Int) = (N : Int) - (k : Int) * 16384) := by unfold sz; omega
          generalize min (16384 * k) N = m at *
          rcases hse with ⟨hbig, hse⟩ | ⟨hbig, hse⟩
          all_goals
            go_wp2_with fail
            go_loop [95] (fun i => ∃ j : Nat, j ≤ sz N k ∧ i = .int .i64 (j : Int)) (fun i => sz N k - (intOf i).toNat)
            case atStart => exact ⟨0, Nat.zero_le _, rfl⟩
            case round =>
              obtain ⟨j, hj, rfl⟩ := hrel
              by_cases hjl : j < sz N k
              · have hcj := Hb2.out k j hlt hjl
                go_wp2_with fail
                go_round
                case rel => exact ⟨j + 1, by omega, by go_num⟩
                case measure => simp [intOf]; omega
              · go_wp2_with fail
                go_round
                case rel => exact ⟨k + 1, by omega, by go_num, by rw [← HT.out]; go_num⟩
                case measure => simp [intOf]; omega
        · have hkk : k = K := by omega
          have hT : ((min (16384 * k) N : Nat) : Int) = (N : Int) := by omega
          rw [hT]
          clear hT
          go_wp2_with fail
          go_ret
          exact ⟨rfl, hB.out⟩
    · rw [if_pos rfl] at gt
      obtain ⟨rt, ct, rfl, _⟩ := gt.form (by omega)
      have Ht1 : Hid _ := fun i (hi : i < K) => gt.cell rfl hi
      have Ht2 : Hid _ := fun i j (hi : i < K) (hj : j < sz N i) => gt.slot hi hj
      clear gt
      go_wp2_with fail
      go_loop [8, 78] (fun t i => ∃ k : Nat, k ≤ K ∧ i = .int .i64 (k : Int) ∧ t = .int .i64 ((min (16384 * k) N : Nat) : Int)) (fun _ i => K - (intOf i).toNat)
      case atStart => exact ⟨0, Nat.zero_le _, rfl, by simp⟩
      case round =>
        obtain ⟨k, hk, rfl, rfl⟩ := hrel
        by_cases hlt : k < K
        · have hc : w'.cell? ⟨rb, k, none⟩ = some (.slice (some ⟨bs k, 0, none⟩) (sz N k) (sz N k)) := Hb1.out k hlt
          have hct : w'.cell? ⟨rt, k, none⟩ = some (.slice (some ⟨ts k, 0, none⟩) (sz N k) (sz N k)) := Ht1.out k hlt
          have hsl := sz_le N k
          have hmin : min (16384 * k) N ≤ 393216 := by omega
          have HT : Hid (((min (16384 * k) N : Nat) : Int) + (sz N k : Int) = ((min (16384 * (k + 1)) N : Nat) : Int)) := by unfold Hid sz; omega
          have hse : (16384 < (N : Int) - (k : Int) * 16384 ∧ (sz N k : Int) = 16384) ∨ ((N : Int) - (k : Int) * 16384 ≤ 16384 ∧ (sz N k : Int) = (N : Int) - (k : Int) * 16384) := by unfold sz; omega
          generalize min (16384 * k) N = m at *
          rcases hse with ⟨hbig, hse⟩ | ⟨hbig, hse⟩
          all_goals
            go_wp2_with fail
            go_loop [95] (fun i => ∃ j : Nat, j ≤ sz N k ∧ i = .int .i64 (j : Int)) (fun i => sz N k - (intOf i).toNat)
            case atStart => exact ⟨0, Nat.zero_le _, rfl⟩
            case round =>
              obtain ⟨j, hj, rfl⟩ := hrel
              by_cases hjl : j < sz N k
              · have hcj := Hb2.out k j hlt hjl
                go_wp2_with fail
                go_round
                case rel => exact ⟨j + 1, by omega, by go_num⟩
                case measure => simp [intOf]; omega
              · go_wp2_with fail
                go_loop [116] (fun i => ∃ j : Nat, j ≤ sz N k ∧ i = .int .i64 (j : Int)) (fun i => sz N k - (intOf i).toNat)
                case atStart => exact ⟨0, Nat.zero_le _, rfl⟩
                case round =>
                  obtain ⟨j, hj, rfl⟩ := hrel
                  by_cases hjl : j < sz N k
                  · have hcj := Ht2.out k j hlt hjl
                    go_wp2_with fail
                    go_round
                    case rel => exact ⟨j + 1, by omega, by go_num⟩
                    case measure => simp [intOf]; omega
                  · go_wp2_with fail
                    go_round
                    case rel => exact ⟨k + 1, by omega, by go_num, by rw [← HT.out]; go_num⟩
                    case measure => simp [intOf]; omega
        · have hkk : k = K := by omega
          have hT : ((min (16384 * k) N : Nat) : Int) = (N : Int) := by omega
          rw [hT]
          clear hT
          go_wp2_with fail
          go_ret
          exact ⟨rfl, hB.out⟩

theorem shape_out (n : Int) (tg : Bool) (w : World) (h : n < -1048576 ∨ 262144 < n) :
    Calls Yba.prog 3 #[.int .i64 n, .bool tg] w fun e w' => e = .returned (.bool true) ∧ Below w.heap.size w w' := by
  rcases h with h | h
  · go_enter Yba.func3, Yba.ntmps3
    go_wp2
    go_ret
    exact ⟨rfl, Below.refl _ _⟩
  · have h' : ¬ n < -1048576 := by omega
    go_enter Yba.func3, Yba.ntmps3
    go_wp2
    go_ret
    exact ⟨rfl, Below.refl _ _⟩

theorem shape_any (n : Int) (tg : Bool) (w : World) :
    Calls Yba.prog 3 #[.int .i64 n, .bool tg] w fun e w' => e = .returned (.bool true) ∧ Below w.heap.size w w' := by
  by_cases h : n < -1048576 ∨ 262144 < n
  · exact shape_out n tg w h
  · exact shape_in n tg w (by omega) (by omega)
end Go.Proofs.Ybulkaaww
