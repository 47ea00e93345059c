/-
  parseServerName: its loop.
-/
import Derived.Test.YbulkabacFmtHead
namespace Go.Proofs.YbulkabacFmt
open Go.RowKit Go.Extern.Stop Go.Stop Go.Extern

/-- The round's first call: the type of the entry. -/
theorem rnum (B B1 b off m k kd : Nat) (wr : World) (hB : B ≤ B1) (hs : B1 < wr.heap.size) (hb : b < B) (hc : Cur wr B1 b off m k) (hm : 1 ≤ m) (hfz : wr.frozen? ⟨B1, 0, none⟩ = false) (r0 : wr.cell? ⟨b, off, none⟩ = some (.int .u8 (kd : Int))) (g0 : kd < 256) :
    Calls Ybaf.prog 10 #[.pointer (some ⟨B1, 0, none⟩), .int .i64 1, .pointer (some ⟨wr.heap.size, 0, none⟩)] ((wr.alloc (.cells #[.int .i64 0] 3)).alloc (.cells #[.slice none 0 0] 29)) fun e w1 =>
      e = .returned (.bool true) ∧ (w1.cell? ⟨wr.heap.size, 0, none⟩ = some (.int .i64 (kd : Int)) ∧ (∃ k', Cur w1 B1 b (off + 1) (m - 1) k') ∧ w1.cell? ⟨wr.heap.size + 1, 0, none⟩ = some (.slice none 0 0)) ∧
        (w1.frozen? ⟨wr.heap.size + 1, 0, none⟩ = false ∧ w1.frozen? ⟨B1, 0, none⟩ = false) ∧ Below B wr w1 ∧ wr.heap.size + 2 ≤ w1.heap.size := by
  obtain ⟨ao, h0, hl, hao⟩ := hc
  have hz : ((wr.alloc (.cells #[.int .i64 0] 3)).alloc (.cells #[.slice none 0 0] 29)).heap.size = wr.heap.size + 2 := by simp
  have old : ∀ x, x < wr.heap.size → ((wr.alloc (.cells #[.int .i64 0] 3)).alloc (.cells #[.slice none 0 0] 29)).heap[x]? = wr.heap[x]? := fun x hx => by
    rw [Below.heap_alloc _ _ x (by simp; omega), Below.heap_alloc _ _ x hx]
  have t0 : ((wr.alloc (.cells #[.int .i64 0] 3)).alloc (.cells #[.slice none 0 0] 29)).cell? ⟨wr.heap.size, 0, none⟩ = some (.int .i64 0) := by simp [go_sem]
  have t1 : ((wr.alloc (.cells #[.int .i64 0] 3)).alloc (.cells #[.slice none 0 0] 29)).cell? ⟨wr.heap.size + 1, 0, none⟩ = some (.slice none 0 0) := by simp [go_sem]
  have t2 : ((wr.alloc (.cells #[.int .i64 0] 3)).alloc (.cells #[.slice none 0 0] 29)).frozen? ⟨wr.heap.size, 0, none⟩ = false := by simp [go_sem]
  have t3 : ((wr.alloc (.cells #[.int .i64 0] 3)).alloc (.cells #[.slice none 0 0] 29)).frozen? ⟨wr.heap.size + 1, 0, none⟩ = false := by simp [go_sem]
  have t4 : ((wr.alloc (.cells #[.int .i64 0] 3)).alloc (.cells #[.slice none 0 0] 29)).frozen? ⟨B1, 0, none⟩ = false := by rw [World.frozen?_of_block (old B1 hs)]; exact hfz
  refine (number1 B1 wr.heap.size b off m k kd _ _ ⟨ao, by rw [World.cell?_of_block (old B1 hs)]; exact h0, hl, hao⟩ t0 hm t2 t4 (by omega) (by omega) (by omega) (by rw [World.cell?_of_block (old b (by omega))]; exact r0) g0).mono ?_
  rintro e w1 ⟨rfl, hv, hcur, hu⟩
  refine ⟨rfl, ⟨hv, ⟨_, hcur⟩, ?_⟩, ⟨?_, ?_⟩, ?_, ?_⟩
  · rw [hu.cell (a := ⟨wr.heap.size + 1, 0, none⟩) (by rw [hz]; show wr.heap.size + 1 < _; omega) (by show wr.heap.size + 1 ≠ B1; omega) (by show wr.heap.size + 1 ≠ wr.heap.size; omega)]; exact t1
  · rw [hu.fz _ _ (by rw [hz]; omega)]; exact t3
  · rw [hu.fz _ _ (by rw [hz]; omega)]; exact t4
  · exact below_upd (((Below.refl B wr).alloc (by omega) _).alloc (by simp; omega) _) hu (by rw [hz]; omega) hB (by omega)
  · have := hu.size; rw [hz] at this; exact this

/-- The round's second call, where the field fits. -/
theorem rfit (B B1 K0 b off m k b0 b1 n r : Nat) (kv : Value) (w1 : World) (hB : B ≤ B1) (hs : B1 < K0) (hz : K0 + 2 ≤ w1.heap.size) (hc : Cur w1 B1 b off m k) (hr : n + r + 2 = m) (hn : b0 * 256 + b1 = n) (h0 : w1.cell? ⟨K0, 0, none⟩ = some kv) (h1 : w1.cell? ⟨K0 + 1, 0, none⟩ = some (.slice none 0 0))
    (f1 : w1.frozen? ⟨K0 + 1, 0, none⟩ = false) (f2 : w1.frozen? ⟨B1, 0, none⟩ = false) (r0 : w1.cell? ⟨b, off, none⟩ = some (.int .u8 (b0 : Int))) (r1 : w1.cell? ⟨b, off + 1, none⟩ = some (.int .u8 (b1 : Int))) (g0 : b0 < 256) (g1 : b1 < 256) :
    Calls Ybaf.prog 8 #[.pointer (some ⟨B1, 0, none⟩), .int .i64 2, .pointer (some ⟨K0 + 1, 0, none⟩)] w1 fun e w2 =>
      e = .returned (.bool true) ∧ (w2.cell? ⟨K0, 0, none⟩ = some kv ∧ (∃ k', Cur w2 (K0 + 1) b (off + 2) n k') ∧ (∃ k', Cur w2 B1 b (off + 2 + n) r k')) ∧ w2.frozen? ⟨B1, 0, none⟩ = false ∧ Below B w1 w2 := by
  refine (vector_fit B1 (K0 + 1) b off m k b0 b1 n r _ w1 hc hr hn h1 f1 f2 (by omega) r0 r1 g0 g1).mono ?_
  rintro e w2 ⟨rfl, h3, h4, hu⟩
  refine ⟨rfl, ⟨?_, h3, h4⟩, ?_, below_upd (Below.refl B w1) hu (by omega) hB (by omega)⟩
  · rw [hu.cell (a := ⟨K0, 0, none⟩) (by show K0 < _; omega) (by show K0 ≠ B1; omega) (by show K0 ≠ K0 + 1; omega)]; exact h0
  · rw [hu.fz _ _ (by omega)]; exact f2

/-- The round's second call, where the field runs past the end. -/
theorem rbad (B B1 K0 b off m k b0 b1 : Nat) (w1 : World) (hB : B ≤ B1) (hs : B1 < K0) (hz : K0 + 2 ≤ w1.heap.size) (hc : Cur w1 B1 b off m k) (h1 : w1.cell? ⟨K0 + 1, 0, none⟩ = some (.slice none 0 0)) (g0 : b0 < 256) (g1 : b1 < 256)
    (r : 2 ≤ m → w1.cell? ⟨b, off, none⟩ = some (.int .u8 (b0 : Int)) ∧ w1.cell? ⟨b, off + 1, none⟩ = some (.int .u8 (b1 : Int))) (hbad : m < 2 ∨ (2 ≤ m ∧ m - 2 < b0 * 256 + b1)) :
    Calls Ybaf.prog 8 #[.pointer (some ⟨B1, 0, none⟩), .int .i64 2, .pointer (some ⟨K0 + 1, 0, none⟩)] w1 fun e w2 => e = .returned (.bool false) ∧ Below B w1 w2 := by
  refine (vector_bad B1 (K0 + 1) b off m k b0 b1 _ w1 hc h1 g0 g1 r hbad).mono ?_
  rintro e w2 ⟨rfl, hu⟩
  exact ⟨rfl, below_upd (Below.refl B w1) hu (by omega) hB (by omega)⟩

/-- The bytes of a slice as a string. -/
theorem conv_at (t : TypeId) (ht : Ybaf.prog.underlying t = some (.slice 5)) (w2 : World) (b off k : Nat) (ys : List Nat) (hy : ∀ i, i < ys.length → w2.cell? ⟨b, off + i, none⟩ = some (.int .u8 ((ys.getD i 0 : Nat) : Int))) :
    (convert t 9 (.slice (some ⟨b, off, none⟩) ys.length k)).run Ybaf.prog w2 = .ok (.string (str ys)) w2 := by
  have hl := run_loadCells_list (P := Ybaf.prog) w2 ⟨b, off, none⟩ ((ys.map (fun n : Nat => (n : Int))).map (Value.int .u8)) (by
    intro j v hj
    have hlt : j < ys.length := by
      have := (List.getElem?_eq_some_iff.1 hj).1
      simpa using this
    have e : (⟨b, off, none⟩ : Addr).add j = ⟨b, off + j, none⟩ := by unfold Addr.add; split <;> simp_all
    rw [e, hy j hlt]
    simp only [List.getElem?_map, List.getElem?_eq_getElem hlt, Option.map_some, Option.some.injEq] at hj
    rw [← hj, List.getD_eq_getElem?_getD, List.getElem?_eq_getElem hlt]
    rfl)
  rw [run_convert_bytes_string w2 t 9 5 _ _ _ ht Ybaf.underlying5 Ybaf.underlying9, run_bytesToString w2 _ _ _ (ys.map (fun n : Nat => (n : Int))) (by simpa using hl), str_fold0]

theorem conv_n (t : TypeId) (ht : Ybaf.prog.underlying t = some (.slice 5)) (w2 : World) (b off n k : Nat) (ys : List Nat) (hl : ys.length = n) (hy : ∀ i, i < n → w2.cell? ⟨b, off + i, none⟩ = some (.int .u8 ((ys.getD i 0 : Nat) : Int))) :
    (convert t 9 (.slice (some ⟨b, off, none⟩) n k)).run Ybaf.prog w2 = .ok (.string (str ys)) w2 := by
  subst hl
  exact conv_at t ht w2 b off k ys hy

theorem str_full (l : List Nat) (h : l ≠ []) : (str l).toList.isEmpty = false := by
  unfold str
  rw [ByteArray.toList_mk]
  cases l with
  | nil => exact absurd rfl h
  | cons a l => rfl

set_option maxRecDepth 100000 in
set_option maxHeartbeats 4000000 in
theorem parse_loop (F : Interp) (b o : Nat) (zs : List Nat) (a : Addr) (s : ByteArray) (ao : Option Addr) (cap : Nat) (w : World) (hF : F.answers w.tape) (hI : Inp w b o zs a s) (hcap : zs.length ≤ cap) (hao : 0 < cap → ao = some ⟨b, o, none⟩) (n : Nat) (hr : n + 0 + 2 = zs.length) (hn : zs.getD 0 0 * 256 + zs.getD 1 0 = n) (hn0 : 0 < n) (hZ : zs.length ≤ 70000) :
    Calls Ybaf.prog 6 #[.slice ao zs.length cap] w fun e w' => Res w a (psn zs) e w' := by
  have hnot : ∀ (x : Bool) (w : World), (Op.unary .not (.bool x)).run Ybaf.prog w = .ok (.bool (!x)) w := fun _ _ => rfl
  have HI : Hid _ := hI
  have HF : Hid _ := hF
  obtain ⟨⟨s1, s2⟩, ⟨s3, s4⟩, s5, s6⟩ := start w b o zs.length cap ao hcap hao
  have HS : Hid _ := s5
  have HX : Hid _ := s6
  have HC : Hid _ := s1
  have HR : Hid _ := hr
  have HN : Hid _ := hn
  have HZ4 : Hid _ := s4
  clear hI hF s5 s6 s1 hao hr hn
  have hn0' : ((n : Int) == 0) = false := beq_eq_false_iff_ne.2 (by omega)
  go_enter Ybaf.func6, Ybaf.ntmps6
  go_wp2_with (first | (go_at_call 8; refine (vector_fit _ _ b o zs.length cap (zs.getD 0 0) (zs.getD 1 0) n 0 _ _ HC.out HR.out HN.out s2 s4 s3 (by omega) ((HI.out.later HS.out).two 0 (by have := HR.out; omega)).1 ((HI.out.later HS.out).two 0 (by have := HR.out; omega)).2 (HI.out.small 0) (HI.out.small 1)).mono ?_; rintro e w1 ⟨rfl, ⟨k1, a1, c1, l1, d1⟩, ⟨k2, a2, c2, l2, d2⟩, hu⟩; have hb1 := below_upd HS.out hu (by rw [HX.out]; omega) (Nat.le_refl _) (by omega); have HB1 : Hid _ := hb1; have HU : Hid _ := hu; have HD1 : Hid _ := d1; clear hb1 hu d1 d2))
  go_loopg [5] n (fun m v5 wr => ∃ p h f, p + m = zs.length ∧ v5 = .string (str h) ∧ (∃ k, Cur wr (w.heap.size + 1) b (o + p) m k) ∧ wr.frozen? ⟨w.heap.size + 1, 0, none⟩ = false ∧ m < f ∧ ents f (zs.drop p) h = psn zs ∧ Below w.heap.size w wr ∧ w.heap.size + 2 ≤ wr.heap.size)
  case atStart =>
    refine ⟨2, [], n + 1, by have := HR.out; omega, rfl, ⟨k1, a1, c1, l1, HD1.out⟩, ?_, by omega, ?_, HB1.out, ?_⟩
    · rw [HU.out.fz (w.heap.size + 1) 0 (by rw [HX.out]; omega)]; exact HZ4.out
    · have h2 := HR.out
      have h3 := HN.out
      rw [psn_two zs (by omega), if_pos ⟨by omega, by omega⟩, show zs.length - 2 + 1 = n + 1 from by omega]
    · have := HU.out.size; rw [HX.out] at this; exact this
  case round =>
    obtain ⟨p, h, f, hp, rfl, ⟨k, q, hc, hl, hq⟩, hfz, hf, he, hB, hsz⟩ := hrel
    have HE : Hid _ := he
    have HQ : Hid _ := hq
    have HB : Hid _ := hB
    have HP : Hid _ := hp
    clear he hq hB hp c1 c2 l1 l2
    by_cases hm : gk = 0
    · subst hm
      have HR2 : Hid (psn zs = some h) := by
        unfold Hid
        rw [← HE.out, List.drop_of_length_le (by have := HP.out; omega)]
        match f, hf with
        | f + 1, _ => rfl
      go_wp2_with fail
      go_ret2
      exact ⟨HB.out, Or.inl ⟨h, HR2.out, rfl⟩⟩
    · have hm' : 0 < (gk : Int) := by omega
      obtain ⟨kd, hkd⟩ : ∃ kd, zs.getD p 0 = kd := ⟨_, rfl⟩
      obtain ⟨z1, hz1⟩ : ∃ z1, zs.getD (p + 1) 0 = z1 := ⟨_, rfl⟩
      obtain ⟨z2, hz2⟩ : ∃ z2, zs.getD (p + 2) 0 = z2 := ⟨_, rfl⟩
      have HBB : Hid (b < w.heap.size) := World.block_lt_of_cell? w _ (HI.out.byte 0 (by have := HR.out; omega))
      have HK0 : Hid (wr.cell? ⟨b, o + p, none⟩ = some (.int .u8 (kd : Int))) := by rw [← hkd]; exact (HI.out.later HB.out).byte p (by have := HP.out; omega)
      have HG0 : Hid (kd < 256) := by rw [← hkd]; exact HI.out.small p
      have HG1 : Hid (z1 < 256) := by rw [← hz1]; exact HI.out.small (p + 1)
      have HG2 : Hid (z2 < 256) := by rw [← hz2]; exact HI.out.small (p + 2)
      have HBY : Hid (∀ w3, Below w.heap.size w w3 → 3 ≤ gk → w3.cell? ⟨b, o + p + 1, none⟩ = some (.int .u8 (z1 : Int)) ∧ w3.cell? ⟨b, o + p + 1 + 1, none⟩ = some (.int .u8 (z2 : Int))) := by
        intro w3 hb3 h3
        have hP := HP.out
        have h4 := (HI.out.later hb3).byte (p + 1) (by omega)
        have h5 := (HI.out.later hb3).byte (p + 2) (by omega)
        rw [hz1] at h4
        rw [hz2] at h5
        exact ⟨h4, h5⟩
      obtain ⟨f', rfl⟩ : ∃ f', f = f' + 1 := ⟨f - 1, by omega⟩
      have HDR : Hid (3 ≤ gk → zs.drop p = kd :: z1 :: z2 :: zs.drop (p + 3)) := by
        intro h3
        rw [drop_three zs p (by have := HP.out; omega), hkd, hz1, hz2]
      have HLEN : Hid (3 ≤ gk → (zs.drop (p + 3)).length = gk - 3) := by
        intro h3
        rw [List.length_drop]
        have := HP.out
        omega
      clear hkd hz1 hz2
      by_cases hbad : gk - 1 < 2 ∨ (2 ≤ gk - 1 ∧ gk - 1 - 2 < z1 * 256 + z2)
      · have HBAD : Hid _ := hbad
        have HNO : Hid (psn zs = none) := by
          unfold Hid
          rw [← HE.out]
          by_cases h3 : gk < 3
          · have hP := HP.out
            refine ents_short _ _ _ (fun e => ?_) (by rw [List.length_drop]; omega)
            have := congrArg List.length e
            rw [List.length_drop] at this
            simp at this
            omega
          · rw [HDR.out (by omega)]
            exact ents_past _ _ _ _ _ _ (by rw [HLEN.out (by omega)]; omega)
        clear hbad
        go_wp2_with (first | (go_at_call 10; refine (rnum w.heap.size (w.heap.size + 1) b (o + p) gk k kd _ (by omega) (by omega) HBB.out ⟨q, hc, hl, HQ.out⟩ (by omega) hfz HK0.out HG0.out).mono ?_; rintro e w3 ⟨rfl, ⟨x1, ⟨k3, x2⟩, x3⟩, ⟨x4, x5⟩, x6, x7⟩; have HC3 : Hid _ := x2; have HB3 : Hid (Below w.heap.size w w3) := HB.out.trans x6; have HZ3 : Hid _ := x7; clear x2 x6 x7) | (go_at_call 8; refine (rbad w.heap.size (w.heap.size + 1) wr.heap.size b (o + p + 1) (gk - 1) k3 z1 z2 _ (by omega) (by omega) HZ3.out HC3.out x3 HG1.out HG2.out (fun hh => HBY.out w3 HB3.out (by omega)) HBAD.out).mono ?_; rintro e w4 ⟨rfl, y1⟩; have HB4 : Hid (Below w.heap.size w w4) := HB3.out.trans y1; have hg := (HI.out.later HB4.out).glob; have HT : Hid _ := (HI.out.later HB4.out).text; clear y1) | (go_at_call 9; refine (errorf_at F _ a s _ _ (by have hh := HF.out; rw [← HB4.out.tape] at hh; exact hh) fr2 HT.out).mono ?_; rintro e w5 ⟨pp, rfl, hpp, hb5⟩))
        go_ret2
        exact ⟨HB4.out.trans (hb5.mono HB4.out.size), Or.inr ⟨HNO.out, pp, rfl, hpp⟩⟩
      · obtain ⟨n2, hn2⟩ : ∃ n2, z1 * 256 + z2 = n2 := ⟨_, rfl⟩
        obtain ⟨r2, hr2⟩ : ∃ r2, n2 + r2 + 2 = gk - 1 := ⟨gk - 3 - n2, by omega⟩
        have HN2 : Hid _ := hn2
        have HR2 : Hid _ := hr2
        have HNL : Hid (¬ (zs.drop (p + 3)).length < z1 * 256 + z2) := by
          unfold Hid
          rw [HLEN.out (by omega)]
          omega
        clear hbad hn2 hr2
        by_cases hk0 : kd = 0
        · have hk1 : ((kd : Int) != 0) = false := by simp [hk0]
          have HKK : Hid _ := hk0
          clear hk0
          by_cases hn2 : n2 = 0
          · have HNO : Hid (psn zs = none) := by
              unfold Hid
              rw [← HE.out, HDR.out (by have := HR2.out; omega), HKK.out]
              exact ents_bad _ _ _ _ _ HNL.out (Or.inl (by rw [HN2.out]; exact hn2))
            have hn3 : ((n2 : Int) == 0) = true := by simp [hn2]
            clear hn2
            go_wp2_with (first | (go_at_call 10; refine (rnum w.heap.size (w.heap.size + 1) b (o + p) gk k kd _ (by omega) (by omega) HBB.out ⟨q, hc, hl, HQ.out⟩ (by omega) hfz HK0.out HG0.out).mono ?_; rintro e w3 ⟨rfl, ⟨x1, ⟨k3, x2⟩, x3⟩, ⟨x4, x5⟩, x6, x7⟩; have HC3 : Hid _ := x2; have HB3 : Hid (Below w.heap.size w w3) := HB.out.trans x6; have HZ3 : Hid _ := x7; clear x2 x6 x7) | (go_at_call 8; refine (rfit w.heap.size (w.heap.size + 1) wr.heap.size b (o + p + 1) (gk - 1) k3 z1 z2 n2 r2 _ _ (by omega) (by omega) HZ3.out HC3.out HR2.out HN2.out x1 x3 x4 x5 (HBY.out w3 HB3.out (by have := HR2.out; omega)).1 (HBY.out w3 HB3.out (by have := HR2.out; omega)).2 HG1.out HG2.out).mono ?_; rintro e w4 ⟨rfl, ⟨y1, ⟨k5, a5, c5, l5, d5⟩, ⟨k6, y3⟩⟩, y4, y5⟩; have HB4 : Hid (Below w.heap.size w w4) := HB3.out.trans y5; have hg := (HI.out.later HB4.out).glob; have HT : Hid _ := (HI.out.later HB4.out).text; have HC6 : Hid _ := y3; have HF6 : Hid _ := y4; have HD5 : Hid _ := d5; have HZ4' : Hid (w.heap.size + 2 ≤ w4.heap.size) := (by have := y5.size; have := HZ3.out; unfold Hid; omega); clear y3 y4 y5 d5) | (go_at_call 9; refine (errorf_at F _ a s _ _ (by have hh := HF.out; rw [← HB4.out.tape] at hh; exact hh) fr3 HT.out).mono ?_; rintro e w5 ⟨pp, rfl, hpp, hb5⟩))
            go_ret2
            exact ⟨HB4.out.trans (hb5.mono HB4.out.size), Or.inr ⟨HNO.out, pp, rfl, hpp⟩⟩
          · have hn3 : ((n2 : Int) == 0) = false := beq_eq_false_iff_ne.2 (by omega)
            have HN3 : Hid _ := hn2
            clear hn2
            by_cases hh : h = []
            · subst hh
              have hsn := str_nil
              obtain ⟨ys, hys⟩ : ∃ ys, (zs.drop (p + 3)).take n2 = ys := ⟨_, rfl⟩
              have HEN : Hid (ents f' (zs.drop (p + 3 + n2)) ys = psn zs) := by
                unfold Hid
                rw [← HE.out, HDR.out (by have := HR2.out; omega), HKK.out, ents_take _ _ _ _ HNL.out (by rw [HN2.out]; exact HN3.out), HN2.out, hys, List.drop_drop]
              have HYL : Hid (ys.length = n2) := by
                unfold Hid
                rw [← hys, List.length_take, HLEN.out (by have := HR2.out; omega)]
                have := HR2.out
                omega
              have HYB : Hid (∀ w4, Below w.heap.size w w4 → ∀ i, i < n2 → w4.cell? ⟨b, o + p + 1 + 2 + i, none⟩ = some (.int .u8 ((ys.getD i 0 : Nat) : Int))) := by
                intro w4 hb4 i hi
                have hP := HP.out
                have hR := HR2.out
                have h5 := (HI.out.later hb4).byte (p + 3 + i) (by omega)
                have e1 : ys.getD i 0 = zs.getD (p + 3 + i) 0 := by
                  rw [← hys, List.getD_eq_getElem?_getD, List.getElem?_take, if_pos hi, List.getElem?_drop, ← List.getD_eq_getElem?_getD]
                rw [e1, ← h5, show o + p + 1 + 2 + i = o + (p + 3 + i) from by omega]
              clear hys
              go_wp2_with (first | (go_at_call 10; refine (rnum w.heap.size (w.heap.size + 1) b (o + p) gk k kd _ (by omega) (by omega) HBB.out ⟨q, hc, hl, HQ.out⟩ (by omega) hfz HK0.out HG0.out).mono ?_; rintro e w3 ⟨rfl, ⟨x1, ⟨k3, x2⟩, x3⟩, ⟨x4, x5⟩, x6, x7⟩; have HC3 : Hid _ := x2; have HB3 : Hid (Below w.heap.size w w3) := HB.out.trans x6; have HZ3 : Hid _ := x7; clear x2 x6 x7) | (go_at_call 8; refine (rfit w.heap.size (w.heap.size + 1) wr.heap.size b (o + p + 1) (gk - 1) k3 z1 z2 n2 r2 _ _ (by omega) (by omega) HZ3.out HC3.out HR2.out HN2.out x1 x3 x4 x5 (HBY.out w3 HB3.out (by have := HR2.out; omega)).1 (HBY.out w3 HB3.out (by have := HR2.out; omega)).2 HG1.out HG2.out).mono ?_; rintro e w4 ⟨rfl, ⟨y1, ⟨k5, a5, c5, l5, d5⟩, ⟨k6, y3⟩⟩, y4, y5⟩; have HB4 : Hid (Below w.heap.size w w4) := HB3.out.trans y5; have hg := (HI.out.later HB4.out).glob; have HT : Hid _ := (HI.out.later HB4.out).text; have HC6 : Hid _ := y3; have HF6 : Hid _ := y4; have HZ4' : Hid (w.heap.size + 2 ≤ w4.heap.size) := (by have := y5.size; have := HZ3.out; unfold Hid; omega); obtain rfl := d5 (Nat.lt_of_lt_of_le (Nat.pos_of_ne_zero HN3.out) l5); have hcv := conv_n 29 Ybaf.underlying29 w4 b (o + p + 1 + 2) n2 k5 ys HYL.out (HYB.out w4 HB4.out); clear y3 y4 y5 d5))
              go_roundg r2
              case measure => have := HR2.out; omega
              case rel =>
                have hP := HP.out
                have hR := HR2.out
                obtain ⟨kk, hkk⟩ : ∃ kk, Cur w4 (w.heap.size + 1) b (o + (p + 3 + n2)) r2 kk := ⟨k6, by rw [show o + (p + 3 + n2) = o + p + 1 + 2 + n2 from by omega]; exact HC6.out⟩
                exact ⟨p + 3 + n2, ys, f', by omega, rfl, ⟨kk, hkk⟩, HF6.out, by omega, HEN.out, HB4.out, HZ4'.out⟩
            · have hsn := str_full h hh
              have HNO : Hid (psn zs = none) := by
                unfold Hid
                rw [← HE.out, HDR.out (by have := HR2.out; omega), HKK.out]
                exact ents_bad _ _ _ _ _ HNL.out (Or.inr hh)
              clear hh
              go_wp2_with (first | (go_at_call 10; refine (rnum w.heap.size (w.heap.size + 1) b (o + p) gk k kd _ (by omega) (by omega) HBB.out ⟨q, hc, hl, HQ.out⟩ (by omega) hfz HK0.out HG0.out).mono ?_; rintro e w3 ⟨rfl, ⟨x1, ⟨k3, x2⟩, x3⟩, ⟨x4, x5⟩, x6, x7⟩; have HC3 : Hid _ := x2; have HB3 : Hid (Below w.heap.size w w3) := HB.out.trans x6; have HZ3 : Hid _ := x7; clear x2 x6 x7) | (go_at_call 8; refine (rfit w.heap.size (w.heap.size + 1) wr.heap.size b (o + p + 1) (gk - 1) k3 z1 z2 n2 r2 _ _ (by omega) (by omega) HZ3.out HC3.out HR2.out HN2.out x1 x3 x4 x5 (HBY.out w3 HB3.out (by have := HR2.out; omega)).1 (HBY.out w3 HB3.out (by have := HR2.out; omega)).2 HG1.out HG2.out).mono ?_; rintro e w4 ⟨rfl, ⟨y1, ⟨k5, a5, c5, l5, d5⟩, ⟨k6, y3⟩⟩, y4, y5⟩; have HB4 : Hid (Below w.heap.size w w4) := HB3.out.trans y5; have hg := (HI.out.later HB4.out).glob; have HT : Hid _ := (HI.out.later HB4.out).text; have HC6 : Hid _ := y3; have HF6 : Hid _ := y4; have HD5 : Hid _ := d5; have HZ4' : Hid (w.heap.size + 2 ≤ w4.heap.size) := (by have := y5.size; have := HZ3.out; unfold Hid; omega); clear y3 y4 y5 d5) | (go_at_call 9; refine (errorf_at F _ a s _ _ (by have hh := HF.out; rw [← HB4.out.tape] at hh; exact hh) fr4 HT.out).mono ?_; rintro e w5 ⟨pp, rfl, hpp, hb5⟩))
              go_ret2
              exact ⟨HB4.out.trans (hb5.mono HB4.out.size), Or.inr ⟨HNO.out, pp, rfl, hpp⟩⟩
        · have hk1 : ((kd : Int) != 0) = true := by rw [bne_iff_ne]; omega
          have HEN : Hid (ents f' (zs.drop (p + 3 + n2)) h = psn zs) := by
            unfold Hid
            rw [← HE.out, HDR.out (by have := HR2.out; omega), ents_skip _ _ _ _ _ _ HNL.out hk0, HN2.out, List.drop_drop]
          clear hk0
          go_wp2_with (first | (go_at_call 10; refine (rnum w.heap.size (w.heap.size + 1) b (o + p) gk k kd _ (by omega) (by omega) HBB.out ⟨q, hc, hl, HQ.out⟩ (by omega) hfz HK0.out HG0.out).mono ?_; rintro e w3 ⟨rfl, ⟨x1, ⟨k3, x2⟩, x3⟩, ⟨x4, x5⟩, x6, x7⟩; have HC3 : Hid _ := x2; have HB3 : Hid (Below w.heap.size w w3) := HB.out.trans x6; have HZ3 : Hid _ := x7; clear x2 x6 x7) | (go_at_call 8; refine (rfit w.heap.size (w.heap.size + 1) wr.heap.size b (o + p + 1) (gk - 1) k3 z1 z2 n2 r2 _ _ (by omega) (by omega) HZ3.out HC3.out HR2.out HN2.out x1 x3 x4 x5 (HBY.out w3 HB3.out (by have := HR2.out; omega)).1 (HBY.out w3 HB3.out (by have := HR2.out; omega)).2 HG1.out HG2.out).mono ?_; rintro e w4 ⟨rfl, ⟨y1, ⟨k5, a5, c5, l5, d5⟩, ⟨k6, y3⟩⟩, y4, y5⟩; have HB4 : Hid (Below w.heap.size w w4) := HB3.out.trans y5; have hg := (HI.out.later HB4.out).glob; have HT : Hid _ := (HI.out.later HB4.out).text; have HC6 : Hid _ := y3; have HF6 : Hid _ := y4; have HD5 : Hid _ := d5; have HZ4' : Hid (w.heap.size + 2 ≤ w4.heap.size) := (by have := y5.size; have := HZ3.out; unfold Hid; omega); clear y3 y4 y5 d5))
          go_roundg r2
          case measure => have := HR2.out; omega
          case rel =>
            have hP := HP.out
            have hR := HR2.out
            obtain ⟨kk, hkk⟩ : ∃ kk, Cur w4 (w.heap.size + 1) b (o + (p + 3 + n2)) r2 kk := ⟨k6, by rw [show o + (p + 3 + n2) = o + p + 1 + 2 + n2 from by omega]; exact HC6.out⟩
            exact ⟨p + 3 + n2, h, f', by omega, rfl, ⟨kk, hkk⟩, HF6.out, by omega, HEN.out, HB4.out, HZ4'.out⟩

/-- parseServerName, at every data of at most 70000 bytes. -/
theorem parse_any (F : Interp) (b o : Nat) (zs : List Nat) (a : Addr) (s : ByteArray) (ao : Option Addr) (cap : Nat) (w : World) (hF : F.answers w.tape) (hI : Inp w b o zs a s) (hcap : zs.length ≤ cap) (hao : 0 < cap → ao = some ⟨b, o, none⟩) (hZ : zs.length ≤ 70000) :
    Calls Ybaf.prog 6 #[.slice ao zs.length cap] w fun e w' => Res w a (psn zs) e w' := by
  by_cases h2 : zs.length < 2
  · rw [psn_short zs h2]
    exact parse_e1 F b o zs a s ao cap w hF hI hcap hao (Or.inl h2)
  · by_cases hl : zs.length - 2 < zs.getD 0 0 * 256 + zs.getD 1 0
    · rw [psn_two zs (by omega), if_neg (by omega)]
      exact parse_e1 F b o zs a s ao cap w hF hI hcap hao (Or.inr ⟨by omega, hl⟩)
    · by_cases hr : zs.getD 0 0 * 256 + zs.getD 1 0 = zs.length - 2
      · by_cases hz : zs.length = 2
        · rw [psn_two zs (by omega), if_neg (by omega)]
          exact parse_e3 F b o zs a s ao cap w hF hI hcap hao 0 0 (by omega) (by omega) rfl rfl
        · exact parse_loop F b o zs a s ao cap w hF hI hcap hao (zs.length - 2) (by omega) hr (by omega) hZ
      · rw [psn_two zs (by omega), if_neg (by omega)]
        exact parse_e2 F b o zs a s ao cap w hF hI hcap hao (zs.getD 0 0 * 256 + zs.getD 1 0) (zs.length - 2 - (zs.getD 0 0 * 256 + zs.getD 1 0)) (by omega) rfl (by omega)
end Go.Proofs.YbulkabacFmt
