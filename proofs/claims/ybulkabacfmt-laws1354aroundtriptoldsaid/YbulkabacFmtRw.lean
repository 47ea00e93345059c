/-
  LawS1354ARoundTrip, walked.
-/
import Derived.Test.YbulkabacFmtRl
namespace Go.Proofs.YbulkabacFmt
open Go.RowKit Go.Extern.Stop Go.Stop Go.Extern

theorem glob_later {w w2 : World} {v : Value} (hg : w.cell? ⟨0, 0, none⟩ = some v) (hb : Below w.heap.size w w2) : w2.cell? ⟨0, 0, none⟩ = some v := by
  rw [hb.cell (p := ⟨0, 0, none⟩) (World.block_lt_of_cell? w _ hg)]; exact hg

/-- The parser on the buffer. -/
theorem parse_buf (F : Interp) {w wr : World} {B g ZL cap : Nat} {zs : List Nat} {a : Addr} {s : ByteArray} {R : Option (List Nat)} (hF : F.answers w.tape) (hg : w.cell? ⟨0, 0, none⟩ = some (.iface 61 (.pointer (some a)))) (ht : w.cell? a = some (.string s)) (hb : Below w.heap.size w wr)
    (hown : wr.ownsRow B 5 1 (.slice (some ⟨g, 0, none⟩) ZL cap) ZL (bs zs)) (hsm : ∀ x, x ∈ zs → x < 256) (hZ : ZL ≤ 70000) (hR : psn zs = R) :
    Calls Ybaf.prog 6 #[.slice (some ⟨g, 0, none⟩) ZL cap] wr fun e w' => Res wr a R e w' := by
  obtain ⟨h1, h2, h3⟩ := inp_of hown hsm hg ht hb
  have := parse_any F g 0 zs a s (some ⟨g, 0, none⟩) cap wr (by have h := hF; rw [← hb.tape] at h; exact h) h3 (by omega) (fun _ => rfl) (by omega)
  rw [h1, hR] at this
  exact this

theorem law_round_long (x : Int) (ao : Option Addr) (N cap : Nat) (w : World) (hN : 4096 < N) :
    Calls Ybaf.prog 4 #[.slice ao N cap, .int .u8 x] w fun e w' => e = .returned (.bool true) ∧ Below w.heap.size w w' := by
  have hN' : (4096 : Int) < (N : Int) := by omega
  go_enter Ybaf.func4, Ybaf.ntmps4
  go_wp2
  go_ret
  exact ⟨rfl, Below.refl _ _⟩

set_option maxRecDepth 100000 in
set_option maxHeartbeats 2000000 in
theorem law_round (F : Interp) (x : Int) (hx : 0 ≤ x ∧ x < 256) (b o : Nat) (L : List (Nat × List Nat)) (a : Addr) (s : ByteArray) (ao : Option Addr) (cap N : Nat) (w : World) (hF : F.answers w.tape)
    (hg : w.cell? ⟨0, 0, none⟩ = some (.iface 61 (.pointer (some a)))) (ht : w.cell? a = some (.string s)) (hL : Nms w b o L) (hNL : L.length = N) (hao : 0 < N → ao = some ⟨b, o, none⟩) (hN : N ≤ 4096) :
    Calls Ybaf.prog 4 #[.slice ao N cap, .int .u8 x] w fun e w' => e = .returned (.bool true) ∧ Below w.heap.size w w' := by
  have hN' : ¬ (4096 : Int) < (N : Int) := by omega
  have HL : Hid _ := hL
  have HG : Hid _ := hg
  have HTX : Hid _ := ht
  have HNL : Hid _ := hNL
  have HAO : Hid _ := hao
  have HF : Hid _ := hF
  clear hL hg ht hNL hao hF
  obtain ⟨i5, hi5, hzz⟩ := Option.map_eq_some_iff.1 info5
  simp only [Prod.mk.injEq] at hzz
  obtain ⟨hz5, hsz5, hb5⟩ := hzz
  go_enter Ybaf.func4, Ybaf.ntmps4
  go_wp2_with fail
  go_loopg [5, 21] N (fun m v5 v21 wr => ∃ i T : Nat, i + m = N ∧ v21 = .int .i64 (i : Int) ∧ v5 = .int .i64 (T : Int) ∧ (enc (L.take i)).length = T ∧ T ≤ 60000 ∧ Below w.heap.size w wr)
  case atStart => exact ⟨0, 0, by omega, rfl, rfl, rfl, by omega, Below.refl _ _⟩
  case round =>
    obtain ⟨i, T, hi, rfl, rfl, hT, hT6, hB⟩ := hrel
    have HB : Hid _ := hB
    have HT : Hid _ := hT
    have HI : Hid _ := hi
    clear hB hT hi
    by_cases hm : gk = 0
    · have hiN : ¬ (i : Int) < (N : Int) := by have := HI.out; omega
      have HTL : Hid ((enc L).length = T) := by
        unfold Hid
        rw [← HT.out, List.take_of_length_le (by have := HNL.out; have := HI.out; omega)]
      obtain ⟨w1, hmk, c0, c1, f0, f1, hb1, hs1, hown⟩ := make_buf T hT6 wr
      have HB1 : Hid (Below w.heap.size w w1) := HB.out.trans (hb1.mono HB.out.size)
      have HOW : Hid _ := hown
      have HS1 : Hid _ := hs1
      have HBS : Hid (w.heap.size ≤ wr.heap.size) := HB.out.size
      clear hown hb1 hs1
      generalize wr.heap.size = B at *
      go_wp2_with fail
      have HO0 : Hid (∃ v, ((w1.setCell ⟨B, 0, none⟩ (.int .u8 ((T : Int) / 256))).setCell ⟨B, 1, none⟩ (.int .u8 ((T : Int) % 256))).ownsRow B 5 1 v 2 (bs [T / 256, T % 256]) ∧ v = .slice (some ⟨B, 0, none⟩) 2 (T + 3)) := ⟨_, HOW.out _ _, rfl⟩
      have HB2 : Hid (Below w.heap.size w ((w1.setCell ⟨B, 0, none⟩ (.int .u8 ((T : Int) / 256))).setCell ⟨B, 1, none⟩ (.int .u8 ((T : Int) % 256)))) := (HB1.out.setCell (p := ⟨B, 0, none⟩) HBS.out _).setCell (p := ⟨B, 1, none⟩) HBS.out _
      have HS2 : Hid (B ≤ ((w1.setCell ⟨B, 0, none⟩ (.int .u8 ((T : Int) / 256))).setCell ⟨B, 1, none⟩ (.int .u8 ((T : Int) % 256))).heap.size) := by
        unfold Hid
        rw [World.size_setCell, World.size_setCell]
        exact Nat.le_of_lt HS1.out
      generalize ((w1.setCell ⟨B, 0, none⟩ (.int .u8 ((T : Int) / 256))).setCell ⟨B, 1, none⟩ (.int .u8 ((T : Int) % 256))) = W0 at *
      clear hmk c0 c1 f0 f1 HOW HS1 HB1 HB HT hiN HI w1
      go_loopg [7, 58] N (fun m v7 v58 wr => ∃ (i : Nat) (v : Value), i + m = N ∧ v7 = v ∧ v58 = .int .i64 (i : Int) ∧ Buf wr w B T L i v)
      case atStart =>
        obtain ⟨v, hv, rfl⟩ := HO0.out
        exact ⟨0, _, by omega, rfl, rfl, HB2.out, HS2.out, hv⟩
      case round =>
        obtain ⟨i, v, hi, rfl, rfl, hbuf⟩ := hrel
        have HI : Hid _ := hi
        by_cases hm2 : gk = 0
        · have hiN : ¬ (i : Int) < (N : Int) := by have := HI.out; omega
          obtain ⟨hb2, hs2, hown⟩ := hbuf
          rw [List.take_of_length_le (by have := HI.out; have := HNL.out; omega), HTL.out] at hown
          have HB2 : Hid (Below w.heap.size w wr) := hb2
          have HS2 : Hid (B ≤ wr.heap.size) := hs2
          have hsm := HL.out.small (by have := HTL.out; omega)
          have HSM : Hid (∀ y, y ∈ T / 256 :: T % 256 :: enc L → y < 256) := by
            intro y hy
            simp only [List.mem_cons] at hy
            rcases hy with rfl | rfl | hy
            · omega
            · omega
            · exact hsm y hy
          obtain ⟨g, cap7, rfl⟩ := buf_open (by omega) hown
          have HO2 : Hid (wr.ownsRow B 5 1 (.slice (some ⟨g, 0, none⟩) (2 + T) cap7) (2 + T) (bs (T / 256 :: T % 256 :: enc L))) := hown
          clear hb2 hs2 hown hsm hi
          have hi26 := iface26
          have hnot : ∀ (x : Bool) (w : World), (Op.unary .not (.bool x)).run Ybaf.prog w = .ok (.bool (!x)) w := fun _ _ => rfl
          by_cases hex : x % 3 = 1
          · have HQE : Hid (psn (T / 256 :: T % 256 :: (enc L ++ [0])) = none) := by
              have h := psn_extra L 0
              rw [HTL.out] at h
              exact h
            have HSE : Hid (∀ y, y ∈ T / 256 :: T % 256 :: (enc L ++ [0]) → y < 256) := by
              intro y hy
              have hy2 : y ∈ T / 256 :: T % 256 :: enc L ∨ y = 0 := by
                simp only [List.mem_cons, List.mem_append, List.not_mem_nil, or_false] at hy ⊢
                rcases hy with h | h | h | h
                · exact .inl (.inl h)
                · exact .inl (.inr (.inl h))
                · exact .inl (.inr (.inr h))
                · exact .inr h
              rcases hy2 with h | h
              · exact HSM.out y h
              · omega
            have hbw := HBS.out
            have hsw := HS2.out
            go_wp2_with (first
              | (at_builtin; refine wpList_append_lies _ rfl (.tmp 92) (.tmp 93) 22 rfl B 5 i5 _ 1 1 Ybaf.underlying22 hi5 hz5 hsz5 hb5 rfl (by omega) _ (2 + T) (bs (T / 256 :: T % 256 :: enc L)) (by rfl) (HO2.out.alloc _) ⟨wr.heap.size, 0, none⟩ 1 1 [.int .u8 0] (by rfl) (by rfl) (three_new wr #[.int .u8 0] 5) (by simp [Value.oneCell']) (by omega) (by unfold maxLen; omega) (by omega) (by simp; omega) (wr.heap.size + 1) (by simp) ?_; intro g2 cap2 w3 hown3 hgrow3 hat hlt; have HO3 : Hid (w3.ownsRow B 5 1 (.slice (some ⟨g2, 0, none⟩) (2 + T + 1) cap2) (2 + T + 1) (bs (T / 256 :: T % 256 :: (enc L ++ [0])))) := (by have h := hown3; rw [show bs (T / 256 :: T % 256 :: enc L) ++ [.int .u8 0] = bs (T / 256 :: T % 256 :: (enc L ++ [0])) from (by simp [bs])] at h; exact h); have HB3 : Hid (Below w.heap.size w w3) := (HB2.out.alloc (by omega) _).grown hgrow3 (by simp; omega) (fun k e => Nat.le_trans HBS.out (HO2.out.lt k e).1); clear hown3 hgrow3 hat hlt)
              | (go_at_call 6; refine (parse_buf F HF.out HG.out HTX.out HB3.out HO3.out HSE.out (by omega) HQE.out).mono ?_; intro e w2 hm; obtain ⟨p, rfl, hp, hb4⟩ := hm.none_of rfl; clear hm; have HB4 : Hid (Below w.heap.size w w2) := HB3.out.trans (hb4.mono HB3.out.size); have hg4 := glob_later HG.out HB4.out; have HPP : Hid _ := hp; clear hb4 hp)
              | (go_at_call 7; refine (is_wrap_same p 0 a _ HPP.out).mono ?_; rintro e w3 ⟨rfl, hw⟩; rw [hw]; clear hw w3))
            all_goals
              go_ret
              exact ⟨rfl, HB4.out⟩
          · by_cases hT0 : T = 0
            · have hT1 : ¬ (0 : Int) < (T : Int) := by omega
              have HQ : Hid (psn (T / 256 :: T % 256 :: enc L) = none) := by
                have h := psn_enc L
                rw [HTL.out, if_neg (by omega)] at h
                exact h
              clear hT0
              go_wp2_with (first
                | (go_at_call 6; refine (parse_buf F HF.out HG.out HTX.out HB2.out HO2.out HSM.out (by omega) HQ.out).mono ?_; intro e w2 hm; obtain ⟨p, rfl, hp, hb4⟩ := hm.none_of rfl; clear hm; have HB4 : Hid (Below w.heap.size w w2) := HB2.out.trans (hb4.mono HB2.out.size); have hg4 := glob_later HG.out HB4.out; have HPP : Hid _ := hp; clear hb4 hp)
                | (go_at_call 7; refine (is_wrap_same p 0 a _ HPP.out).mono ?_; rintro e w3 ⟨rfl, hw⟩; rw [hw]; clear hw w3))
              go_ret
              exact ⟨rfl, HB4.out⟩
            · have hT1 : (0 : Int) < (T : Int) := by omega
              have HQ0 : Hid (psn (T / 256 :: T % 256 :: enc L) = pick L []) := by
                have h := psn_enc L
                rw [HTL.out, if_pos (by omega)] at h
                exact h
              clear hT0
              go_wp2_with fail
              go_loopg [11, 12, 104] N (fun m v11 v12 v104 w9 => ∃ (i : Nat) (h : List Nat), i + m = N ∧ v104 = .int .i64 (i : Int) ∧ v11 = .bool true ∧ v12 = .string (str h) ∧ w9 = wr ∧ pick (L.drop i) h = pick L [])
              case atStart => exact ⟨0, [], by omega, rfl, rfl, rfl, rfl, rfl⟩
              case round =>
                obtain ⟨i, h, hi, rfl, rfl, rfl, rfl, hp⟩ := hrel
                have HI : Hid _ := hi
                have HPK : Hid (pick (L.drop i) h = pick L []) := hp
                clear hi hp
                by_cases hm3 : gk = 0
                · have hiN : ¬ (i : Int) < (N : Int) := by have := HI.out; omega
                  have HQ : Hid (psn (T / 256 :: T % 256 :: enc L) = some h) := by
                    unfold Hid
                    rw [HQ0.out, ← HPK.out, pick_end L i h (by have := HI.out; have := HNL.out; omega)]
                  go_wp2_with (first
                    | (go_at_call 6; refine (parse_buf F HF.out HG.out HTX.out HB2.out HO2.out HSM.out (by omega) HQ.out).mono ?_; intro e w2 hm; obtain ⟨rfl, hb4⟩ := hm.some_of rfl; clear hm; have HB4 : Hid (Below w.heap.size w w2) := HB2.out.trans (hb4.mono HB2.out.size); clear hb4))
                  go_ret
                  exact ⟨rfl, HB4.out⟩
                · have hiN : (i : Int) < (N : Int) := by have := HI.out; omega
                  obtain rfl := HAO.out (by omega)
                  have hiL : i < L.length := by have := HI.out; have := HNL.out; omega
                  have q0 := (HL.out.later HB2.out).kind i hiL
                  have q1 := (HL.out.later HB2.out).name i hiL
                  obtain ⟨kd, hkd⟩ : ∃ kd, (L.getD i (0, [])).1 = kd := ⟨_, rfl⟩
                  obtain ⟨lb, hlb⟩ : ∃ lb, (L.getD i (0, [])).2 = lb := ⟨_, rfl⟩
                  have hk5 := HL.out.smallK i
                  rw [hkd] at q0 hk5
                  rw [hlb] at q1
                  by_cases hk0 : kd = 0
                  · have hk1 : ((kd : Int) != 0) = false := by simp [hk0]
                    by_cases hl0 : lb = []
                    · have HQ : Hid (psn (T / 256 :: T % 256 :: enc L) = none) := by
                        unfold Hid
                        rw [HQ0.out, ← HPK.out, pick_bad L i h hiL (by rw [hkd, hk0]) (Or.inl (by rw [hlb, hl0]))]
                      obtain ⟨nm, hnm⟩ : ∃ nm, str lb = nm := ⟨_, rfl⟩
                      have hsz : nm.size = 0 := by rw [← hnm, str_size, hl0]; rfl
                      rw [hnm] at q1
                      clear hkd hlb hk0 hl0 hnm
                      go_wp2_with (first
                        | (go_at_call 6; refine (parse_buf F HF.out HG.out HTX.out HB2.out HO2.out HSM.out (by omega) HQ.out).mono ?_; intro e w2 hm; obtain ⟨p, rfl, hp, hb4⟩ := hm.none_of rfl; clear hm; have HB4 : Hid (Below w.heap.size w w2) := HB2.out.trans (hb4.mono HB2.out.size); have hg4 := glob_later HG.out HB4.out; have HPP : Hid _ := hp; clear hb4 hp)
                        | (go_at_call 7; refine (is_wrap_same p 0 a _ HPP.out).mono ?_; rintro e w3 ⟨rfl, hw⟩; rw [hw]; clear hw w3))
                      all_goals
                        go_ret
                        exact ⟨rfl, HB4.out⟩
                    · obtain ⟨nm, hnm⟩ : ∃ nm, str lb = nm := ⟨_, rfl⟩
                      obtain ⟨n, hn⟩ : ∃ n, lb.length = n := ⟨_, rfl⟩
                      have hsz : nm.size = n := by rw [← hnm, str_size, hn]
                      have hn3 : ((n : Int) == 0) = false := beq_eq_false_iff_ne.2 (by have : n ≠ 0 := (by rw [← hn]; exact fun e => hl0 (List.length_eq_zero_iff.1 e)); omega)
                      have HNM : Hid (str lb = nm) := hnm
                      rw [hnm] at q1
                      by_cases hh : h = []
                      · subst hh
                        have HNX : Hid (pick (L.drop (i + 1)) lb = pick L []) := by
                          unfold Hid
                          rw [← HPK.out, pick_take L i hiL (by rw [hkd, hk0]) (by rw [hlb]; exact hl0), hlb]
                        have hsn := str_nil
                        clear hkd hlb hk0 hl0 hnm hn
                        go_wp2_with fail
                        go_roundg (gk - 1)
                        case measure => omega
                        case rel =>
                          have := HI.out
                          exact ⟨i + 1, lb, by omega, by go_num, rfl, by rw [HNM.out], rfl, HNX.out⟩
                      · have HQ : Hid (psn (T / 256 :: T % 256 :: enc L) = none) := by
                          unfold Hid
                          rw [HQ0.out, ← HPK.out, pick_bad L i h hiL (by rw [hkd, hk0]) (Or.inr hh)]
                        have hsn := str_full h hh
                        clear hkd hlb hk0 hl0 hnm hn hh
                        go_wp2_with (first
                          | (go_at_call 6; refine (parse_buf F HF.out HG.out HTX.out HB2.out HO2.out HSM.out (by omega) HQ.out).mono ?_; intro e w2 hm; obtain ⟨p, rfl, hp, hb4⟩ := hm.none_of rfl; clear hm; have HB4 : Hid (Below w.heap.size w w2) := HB2.out.trans (hb4.mono HB2.out.size); have hg4 := glob_later HG.out HB4.out; have HPP : Hid _ := hp; clear hb4 hp)
                          | (go_at_call 7; refine (is_wrap_same p 0 a _ HPP.out).mono ?_; rintro e w3 ⟨rfl, hw⟩; rw [hw]; clear hw w3))
                        all_goals
                          go_ret
                          exact ⟨rfl, HB4.out⟩
                  · have hk1 : ((kd : Int) != 0) = true := by rw [bne_iff_ne]; omega
                    have HNX : Hid (pick (L.drop (i + 1)) h = pick L []) := by
                      unfold Hid
                      rw [← HPK.out, pick_skip L i h hiL (by rw [hkd]; exact hk0)]
                    clear hkd hlb hk0
                    go_wp2_with fail
                    go_roundg (gk - 1)
                    case measure => omega
                    case rel =>
                      have := HI.out
                      exact ⟨i + 1, h, by omega, by go_num, rfl, rfl, rfl, HNX.out⟩
        · have hiN : (i : Int) < (N : Int) := by have := HI.out; omega
          obtain rfl := HAO.out (by omega)
          obtain ⟨hb2, hs2, hown⟩ := hbuf
          have HB2 : Hid _ := hb2
          have hiL : i < L.length := by have := HI.out; have := HNL.out; omega
          have q0 := (HL.out.later HB2.out).kind i hiL
          have q1 := (HL.out.later HB2.out).name i hiL
          obtain ⟨kd, hkd⟩ : ∃ kd, (L.getD i (0, [])).1 = kd := ⟨_, rfl⟩
          have hk5 := HL.out.smallK i
          obtain ⟨nm, hnm⟩ : ∃ nm, str (L.getD i (0, [])).2 = nm := ⟨_, rfl⟩
          obtain ⟨n, hn⟩ : ∃ n, (L.getD i (0, [])).2.length = n := ⟨_, rfl⟩
          have hsz : nm.size = n := by rw [← hnm, str_size, hn]
          rw [hkd] at q0 hk5
          rw [hnm] at q1
          have hn6 : n ≤ 60000 := by
            have h1 := enc_snoc L i hiL
            have h2 : (enc L).length = (enc (L.take (i + 1))).length + (enc (L.drop (i + 1))).length := by rw [← List.length_append, ← enc_append, List.take_append_drop]
            rw [h1, List.length_append, ent_length, hn, HTL.out] at h2
            omega
          obtain ⟨k, hk⟩ : ∃ k, 2 + (enc (L.take i)).length = k := ⟨_, rfl⟩
          have hk6 : k ≤ 60002 := by
            have h2 : (enc L).length = (enc (L.take i)).length + (enc (L.drop i)).length := by rw [← List.length_append, ← enc_append, List.take_append_drop]
            have := HTL.out
            omega
          have HNX : Hid (∀ v4 w4, Below w.heap.size w w4 → B ≤ w4.heap.size → w4.ownsRow B 5 1 v4 (k + 3 + n) ((bs (T / 256 :: T % 256 :: enc (L.take i)) ++ [.int .u8 (kd : Int), .int .u8 ((n : Int) / 256), .int .u8 ((n : Int) % 256)]) ++ Lib.strCells nm) → Buf w4 w B T L (i + 1) v4) := by
            intro v4 w4 h1 h2 h3
            refine buf_next HL.out hiL hkd hnm hn h1 h2 ?_
            rw [hk, hsz]
            exact h3
          rw [hk] at hown
          have HO2 : Hid (wr.ownsRow B 5 1 u7 k (bs (T / 256 :: T % 256 :: enc (L.take i)))) := hown
          have hbw := HBS.out
          have HNM : Hid (str (L.getD i (0, [])).2 = nm) := hnm
          clear hkd hn hb2 hown hi hk hnm
          go_wp2_with (first
            | (at_builtin; refine wpList_append_lies _ rfl (.tmp 67) (.tmp 78) 22 rfl B 5 i5 _ 1 1 Ybaf.underlying22 hi5 hz5 hsz5 hb5 rfl (by omega) u7 k (bs (T / 256 :: T % 256 :: enc (L.take i))) (by rfl) (HO2.out.alloc _) ⟨wr.heap.size, 0, none⟩ 3 3 [.int .u8 (kd : Int), .int .u8 ((n : Int) / 256), .int .u8 ((n : Int) % 256)] (by rfl) (by rfl) (three_new wr #[.int .u8 (kd : Int), .int .u8 ((n : Int) / 256), .int .u8 ((n : Int) % 256)] 5) (by simp [Value.oneCell']) (by omega) (by unfold maxLen; omega) (by omega) (by simp; omega) (wr.heap.size + 1) (by simp) ?_; intro g2 cap2 w3 hown3 hgrow3 hat hlt; have HO3 : Hid (w3.ownsRow B 5 1 (.slice (some ⟨g2, 0, none⟩) (k + 3) cap2) (k + 3) (bs (T / 256 :: T % 256 :: enc (L.take i)) ++ [.int .u8 (kd : Int), .int .u8 ((n : Int) / 256), .int .u8 ((n : Int) % 256)])) := hown3; have HB3 : Hid (Below w.heap.size w w3) := (HB2.out.alloc (by omega) _).grown hgrow3 (by simp; omega) (fun k e => Nat.le_trans HBS.out (HO2.out.lt k e).1); have HS3 : Hid (B ≤ w3.heap.size) := (by have := hgrow3.size; simp at this; unfold Hid; omega); have q3 := (HL.out.later HB3.out).name i hiL; rw [HNM.out] at q3; clear hown3 hgrow3 hat hlt)
            | (at_builtin; refine Lib.wpList_append_own_string _ rfl (.tmp 80) (.tmp 85) 22 9 rfl B 5 i5 Ybaf.underlying22 Ybaf.underlying9 hi5 hz5 hsz5 hb5 _ (k + 3) _ (by rfl) HO3.out nm (by rfl) (by unfold maxLen; omega) (by omega) HS3.out ?_; intro v4 w4 hown4 hgrow4 _; have HBU : Hid (Buf w4 w B T L (i + 1) v4) := HNX.out v4 w4 (HB3.out.grown hgrow4 (Nat.le_trans HBS.out HS3.out) (fun k e => Nat.le_trans HBS.out (HO3.out.lt k e).1)) (Nat.le_trans HS3.out hgrow4.size) (by rw [hsz] at hown4; exact hown4); clear hown4 hgrow4))
          go_roundg (gk - 1)
          case measure => omega
          case rel =>
            have := HI.out
            exact ⟨i + 1, v4, by omega, rfl, by go_num, HBU.out⟩
    · have hiN : (i : Int) < (N : Int) := by have := HI.out; omega
      obtain rfl := HAO.out (by omega)
      have q1 := (HL.out.later HB.out).name i (by have := HI.out; have := HNL.out; omega)
      obtain ⟨nm, hnm⟩ : ∃ nm, str (L.getD i (0, [])).2 = nm := ⟨_, rfl⟩
      obtain ⟨n, hn⟩ : ∃ n, (L.getD i (0, [])).2.length = n := ⟨_, rfl⟩
      have hsz : nm.size = n := by rw [← hnm, str_size, hn]
      have HSN : Hid ((enc (L.take (i + 1))).length = T + (3 + n)) := by
        unfold Hid
        rw [enc_snoc L i (by have := HI.out; have := HNL.out; omega), List.length_append, HT.out, ent_length, hn]
      rw [hnm] at q1
      clear hnm hn
      go_wp2_with fail
      · go_ret
        exact ⟨rfl, HB.out⟩
      · go_ret
        exact ⟨rfl, HB.out⟩
      · go_roundg (gk - 1)
        case measure => omega
        case rel =>
          have := HI.out
          exact ⟨i + 1, T + (3 + n), by omega, by go_num, by go_num, HSN.out, by omega, HB.out⟩
end Go.Proofs.YbulkabacFmt
