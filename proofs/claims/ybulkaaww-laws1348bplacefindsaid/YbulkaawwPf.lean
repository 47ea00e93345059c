/-
  The walk of LawS1348BPlaceFind.
-/
import Derived.Test.YbulkaawwGrow
import Derived.Test.YbulkaawwFind
import Derived.Deep.DeepCutAuto
namespace Go.Proofs.Ybulkaaww
open Go.RowKit

theorem tab_of_half {g base N : Nat} {tg : Bool} {w w' : World} (h : Half g base N tg w ((N + 16383) / 16384) ((N + 16383) / 16384) w') (e2 : w'.cell? ⟨g, 2, none⟩ = some (.int .i64 (N : Int))) :
    Tab g base N tg (fun _ => 0) (fun _ => 0) w' ∧ Below g w w' := by
  obtain ⟨bv, tv, c2, bs, ts, e0, e1, _, e3, fz, gb, gt, hbel, hsz, hgb⟩ := h
  exact ⟨⟨bv, tv, bs, ts, e0, e1, e2, e3, gb, fun ht => by rw [if_pos ht] at gt; exact gt, hgb, hsz⟩, hbel⟩

/-- What holds behind i places. -/
def St (g base N : Nat) (tg : Bool) (hs : Nat → Nat) (w : World) (i : Nat) (F T : Nat → Int) (wr : World) : Prop :=
  Tab g base N tg F T wr ∧ cnt F N = i ∧ (∀ s, 0 ≤ F s ∧ F s ≤ 100) ∧ (∀ a : Nat, a < i → Path N tg F T (fst N (hs a)) (a : Int) ((hs a % 256 : Nat) : Int)) ∧ Below w.heap.size w wr

theorem st_next {g base N : Nat} {tg : Bool} {hs : Nat → Nat} {w wr w' : World} {i : Nat} {F T : Nat → Int} (h : St g base N tg hs w i F T wr) (hb : w.heap.size ≤ base) (hi : i < 100) {k : Nat} (hk : k < N) (h0 : F k = 0)
    (hp : Path N tg (upd F k ((i : Int) + 1)) (updT tg T k ((hs i % 256 : Nat) : Int)) (fst N (hs i)) (i : Int) ((hs i % 256 : Nat) : Int))
    (ht : Tab g base N tg (upd F k ((i : Int) + 1)) (updT tg T k ((hs i % 256 : Nat) : Int)) w') (hB : Below base wr w') :
    St g base N tg hs w (i + 1) (upd F k ((i : Int) + 1)) (updT tg T k ((hs i % 256 : Nat) : Int)) w' := by
  obtain ⟨_, hc, hF, hP, hbel⟩ := h
  refine ⟨ht, ?_, fun s => ?_, fun a ha => ?_, hbel.trans (hB.mono hb)⟩
  · rw [cnt_upd F k _ h0 (by omega) N hk, hc]
  · simp only [upd]
    split
    · omega
    · exact hF s
  · by_cases hai : a < i
    · exact path_keep (hP a hai) h0 (by omega)
    · obtain rfl : a = i := by omega
      exact hp

set_option maxRecDepth 100000 in
set_option maxHeartbeats 4000000 in
theorem pf_in (n : Int) (tg : Bool) (b off len cap : Nat) (w : World) (hn : -1048576 ≤ n) (hn' : n ≤ 262144) (hlen : len ≤ maxLen) (hbw : 0 < len → b < w.heap.size) (a2 : Option Addr) (ha2 : 0 < len → a2 = some ⟨b, off, none⟩)
    (hs : Nat → Nat) (hhs : ∀ i, hs i < 18446744073709551616) (hcell : ∀ i, i < len → w.cell? ⟨b, off + i, none⟩ = some (.int .u64 (hs i : Int))) :
    Calls Yba.prog 4 #[.int .i64 n, .bool tg, .slice a2 len cap] w fun e w' => e = .returned (.bool true) ∧ Below w.heap.size w w' := by
  unfold maxLen at hlen
  have hmf : ∀ (fn : Fn) (first cap : Array Value) (w : World), (Instr.makeFunc fn first cap).run Yba.prog w = .ok (.func fn first cap) w := fun _ _ _ _ => rfl
  have HC : Hid _ := hcell
  have HS : Hid _ := hhs
  clear hcell hhs
  go_enter Yba.func4, Yba.ntmps4
  go_wp2_with fail
  refine (grow_any w.heap.size n tg _ _ _ (by simp [go_sem]; rfl) (by simp [go_sem]; rfl) (by simp [go_sem]; try rfl) (by simp [go_sem]; try rfl) (by intro o; simp [go_sem]) hn hn' (w.heap.size + 1) (by simp) (by omega)).mono ?_
  rintro e w' ⟨rfl, N, hN, hN2, hH, e2⟩
  obtain ⟨hT, hbel⟩ := tab_of_half hH e2
  have hB : Below w.heap.size w w' := Below.trans ((Below.refl _ _).alloc (Nat.le_refl _) _) hbel
  have hN16 : 16 ≤ N := by omega
  have HI : Hid (St w.heap.size (w.heap.size + 1) N tg hs w 0 (fun _ => 0) (fun _ => 0) w') := ⟨hT, cnt_zero N, fun _ => ⟨Int.le_refl 0, by show (0 : Int) ≤ 100; decide⟩, fun a ha => absurd ha (Nat.not_lt_zero a), hB⟩
  clear hN hH e2 hT hbel hB
  generalize hg : w.heap.size = g at *
  obtain ⟨M, hM⟩ : ∃ M, M = min len 10 := ⟨_, rfl⟩
  go_upto_if 34 with fail
  go_cut [8] (fun s wc => s = .int .i64 (M : Int) ∧ wc = w')
  case first =>
    by_cases h10 : 10 < len
    · have hM' : M = 10 := by omega
      subst hM'
      clear hM
      go_wp2_with fail
      go_meet
      case rel => exact ⟨rfl, rfl⟩
    · have hM' : M = len := by omega
      subst hM'
      clear hM
      go_wp2_with fail
      go_meet
      case rel => exact ⟨rfl, rfl⟩
  case rest =>
    obtain ⟨rfl, rfl⟩ := hcut
    have hM10 : M ≤ 10 := by omega
    have hMl : M ≤ len := by omega
    clear hM
    go_wp2_with fail
    go_loopg [9] M (fun r v wr => ∃ i : Nat, i + r = M ∧ v = .int .i64 (i : Int) ∧ ∃ F T, St g (g + 1) N tg hs w i F T wr)
    case atStart => exact ⟨0, by omega, rfl, _, _, HI.out⟩
    case round =>
      obtain ⟨i, hi, rfl, F, T, hSt⟩ := hrel
      by_cases hlt : i < M
      · obtain rfl := ha2 (by omega)
        have hbl := hbw (by omega)
        have hc := (hSt.2.2.2.2.cell (p := ⟨b, off + i, none⟩) (by show b < w.heap.size; omega)).trans (HC.out i (by omega))
        have HX : Hid _ := hSt
        have HD : Hid _ := hi
        clear hSt hi
        go_wp2_with (first | (go_at_call 7; refine (place_any g (g + 1) N tg F T (hs i) (i : Int) (by omega) hN2 (HS.out i) (by omega) (by omega) (by have := HX.out.2.1; omega) _ HX.out.1).mono ?_; rintro e w1 ⟨rfl, k, hk, h0, hp, ht, hB⟩))
        have HY : Hid _ := st_next HX.out (by omega) (by omega) hk h0 hp ht hB
        clear h0 hp ht hB
        go_wp2_with fail
        go_roundg (gk - 1)
        case measure => have := HD.out; omega
        case rel => exact ⟨i + 1, by have := HD.out; omega, by go_num, _, _, HY.out⟩
      · obtain rfl : i = M := by omega
        have HX : Hid _ := hSt
        have hTb := hSt.1
        have hBl := hSt.2.2.2.2
        clear hSt hi
        go_wp2_with fail
        go_loopg [10] i (fun r v wq => ∃ j : Nat, j + r = i ∧ v = .int .i64 (j : Int) ∧ Tab g (g + 1) N tg F T wq ∧ Below w.heap.size w wq)
        case atStart => exact ⟨0, by omega, rfl, hTb, hBl⟩
        case round =>
          clear hTb hBl
          obtain ⟨j, hj, rfl, hTb, hBl⟩ := hrel
          by_cases hlt : j < i
          · obtain rfl := ha2 (by omega)
            have hbl := hbw (by omega)
            have hc := (hBl.cell (p := ⟨b, off + j, none⟩) (by show b < w.heap.size; omega)).trans (HC.out j (by omega))
            have hsz := hBl.size
            have hbs : b < wr.heap.size := by omega
            have HD : Hid _ := hj
            have HT2 : Hid (Tab g (g + 1) N tg F T (wr.alloc (.cells #[.int .i32 (j : Int)] 21)) ∧ Below w.heap.size w (wr.alloc (.cells #[.int .i32 (j : Int)] 21))) := ⟨by obtain ⟨bv, tv, bs, ts, h⟩ := hTb; exact ⟨bv, tv, bs, ts, h.alloc _⟩, hBl.alloc hsz _⟩
            clear hj hTb hBl
            go_wp2_with (first | (go_at_call 8; refine (find_any g (g + 1) N tg F T (hs j) wr.heap.size (j : Int) (by omega) hN2 (HS.out j) HX.out.2.2.1 _ HT2.out.1 (by simp [go_sem]) (HX.out.2.2.2.1 j hlt)).mono ?_; rintro e w1 ⟨k, rfl, hw1⟩; rw [hw1]; clear hw1 w1))
            go_roundg (gk - 1)
            case measure => have := HD.out; omega
            case rel => exact ⟨j + 1, by have := HD.out; omega, by go_num, HT2.out.1, HT2.out.2⟩
          · have HB : Hid _ := hBl
            have HC2 : Hid (cnt F N = i) := HX.out.2.1
            clear hj hBl
            obtain ⟨bv, tv, bs, ts, h⟩ := hTb
            have hKN : 16384 * ((N + 16383) / 16384) < N + 16384 ∧ N ≤ 16384 * ((N + 16383) / 16384) := by omega
            have gb := h.gb
            have e0 := h.c0
            clear h
            generalize (N + 16383) / 16384 = K at *
            obtain ⟨rb, cb, rfl, _⟩ := gb.form (by omega)
            have Hb1 : Hid _ := fun i (hi : i < K) => gb.cell rfl hi
            have Hb2 : Hid _ := fun i j (hi : i < K) (hj : j < sz N i) => gb.slot hi hj
            clear gb
            go_wp2_with fail
            go_loop [14, 74] (fun t v => ∃ c : Nat, c ≤ K ∧ v = .int .i64 (c : Int) ∧ t = .int .i64 (cnt F (min (16384 * c) N) : Int)) (fun _ v => K - (intOf v).toNat)
            case atStart => exact ⟨0, Nat.zero_le _, rfl, by simp [cnt]⟩
            case round =>
              obtain ⟨c, hc, rfl, rfl⟩ := hrel
              by_cases hlt : c < K
              · have hcc : wr.cell? ⟨rb, c, none⟩ = some (.slice (some ⟨bs c, 0, none⟩) (sz N c) (sz N c)) := Hb1.out c hlt
                have hsl := sz_le N c
                have HE : Hid (16384 * c + sz N c = min (16384 * (c + 1)) N) := by unfold Hid sz; omega
                have HE0 : min (16384 * c) N = 16384 * c + 0 := by omega
                rw [HE0]
                clear HE0
                go_wp2_with fail
                go_loop [14, 80] (fun t v => ∃ j : Nat, j ≤ sz N c ∧ v = .int .i64 (j : Int) ∧ t = .int .i64 (cnt F (16384 * c + j) : Int)) (fun _ v => sz N c - (intOf v).toNat)
                case atStart => exact ⟨0, Nat.zero_le _, rfl, rfl⟩
                case round =>
                  obtain ⟨j, hj, rfl, rfl⟩ := hrel
                  by_cases hjl : j < sz N c
                  · have hcj := Hb2.out c j hlt hjl
                    have hcl : cnt F (16384 * c + j) ≤ 393216 := by have := cnt_le F (16384 * c + j); unfold sz at hjl; omega
                    have hb := HX.out.2.2.1 (16384 * c + j)
                    have HN : Hid (cnt F (16384 * c + (j + 1)) = cnt F (16384 * c + j) + if F (16384 * c + j) = 0 then 0 else 1) := rfl
                    by_cases hz : F (16384 * c + j) = 0
                    · have hz' : (F (16384 * c + j) != 0) = false := by simp [hz]
                      have HZ : Hid _ := hz
                      clear hz
                      generalize 16384 * c + j = s at *
                      go_wp2_with fail
                      go_round
                      case rel => exact ⟨j + 1, by omega, by go_num, by rw [HN.out, if_pos HZ.out]; rfl⟩
                      case measure => simp [intOf]; omega
                    · have hz' : (F (16384 * c + j) != 0) = true := by rw [bne_iff_ne]; exact hz
                      have HZ : Hid _ := hz
                      clear hz
                      generalize 16384 * c + j = s at *
                      go_wp2_with fail
                      go_round
                      case rel => exact ⟨j + 1, by omega, by go_num, by rw [HN.out, if_neg HZ.out]; rfl⟩
                      case measure => simp [intOf]; omega
                  · obtain rfl : j = sz N c := by omega
                    rw [HE.out]
                    go_wp2_with fail
                    go_round
                    case rel => exact ⟨c + 1, by omega, by go_num, rfl⟩
                    case measure => simp [intOf]; omega
              · have hE : min (16384 * c) N = N := by
                  have : 16384 * K ≤ 16384 * c := Nat.mul_le_mul_left _ (by omega)
                  omega
                rw [hE, HC2.out]
                clear hE
                go_wp2_with fail
                go_ret
                exact ⟨rfl, by rw [← hg]; exact HB.out⟩

theorem pf_out (n : Int) (tg : Bool) (a2 : Option Addr) (len cap : Nat) (w : World) (h : n < -1048576 ∨ 262144 < n) :
    Calls Yba.prog 4 #[.int .i64 n, .bool tg, .slice a2 len cap] w fun e w' => e = .returned (.bool true) ∧ Below w.heap.size w w' := by
  rcases h with h | h
  · go_enter Yba.func4, Yba.ntmps4
    go_wp2
    go_ret
    exact ⟨rfl, Below.refl _ _⟩
  · have h' : ¬ n < -1048576 := by omega
    go_enter Yba.func4, Yba.ntmps4
    go_wp2
    go_ret
    exact ⟨rfl, Below.refl _ _⟩
end Go.Proofs.Ybulkaaww
