/-
  The law's own model, walked.
-/
import Derived.Test.YbulkabacFmtParse
import Derived.BigQuiet
import Derived.Deep.QuietTactic
import Derived.WalkSmall
namespace Go.Proofs.YbulkabacFmt
open Go.RowKit Go.Extern.Stop Go.Stop Go.Extern

/-- What the model answers. -/
def Mod (w : World) (R : Option (List Nat)) (e : Ending) (w' : World) : Prop :=
  Below w.heap.size w w' ∧ ((∃ h, R = some h ∧ e = .returned (.tuple #[.string (str h), .bool true])) ∨ (R = none ∧ e = .returned (.tuple #[.string ⟨#[]⟩, .bool false])))

theorem model_short (zs : List Nat) (ao : Option Addr) (cap : Nat) (w : World) (h2 : zs.length < 2) :
    Calls Ybaf.prog 5 #[.slice ao zs.length cap] w fun e w' => Mod w none e w' := by
  have h2' : (zs.length : Int) < 2 := by omega
  go_enter Ybaf.func5, Ybaf.ntmps5
  go_wp2
  go_ret2
  exact ⟨Below.refl _ _, Or.inr ⟨rfl, rfl⟩⟩

set_option maxRecDepth 100000 in
set_option maxHeartbeats 2000000 in
theorem model_e (b o : Nat) (zs : List Nat) (a : Addr) (s : ByteArray) (ao : Option Addr) (cap : Nat) (w : World) (hI : Inp w b o zs a s) (hcap : zs.length ≤ cap) (hao : 0 < cap → ao = some ⟨b, o, none⟩) (hZ : zs.length ≤ 70000) (h2 : 2 ≤ zs.length) (hbad : ¬ (zs.getD 0 0 * 256 + zs.getD 1 0 = zs.length - 2 ∧ zs.length ≠ 2)) :
    Calls Ybaf.prog 5 #[.slice ao zs.length cap] w fun e w' => Mod w none e w' := by
  obtain rfl := hao (by omega)
  obtain ⟨z0, hz0⟩ : ∃ z0, zs.getD 0 0 = z0 := ⟨_, rfl⟩
  obtain ⟨z1, hz1⟩ : ∃ z1, zs.getD 1 0 = z1 := ⟨_, rfl⟩
  have r0 := hI.byte 0 (by omega)
  have r1 := hI.byte 1 (by omega)
  have g0 := hI.small 0
  have g1 := hI.small 1
  rw [hz0] at hbad r0 g0
  rw [hz1] at hbad r1 g1
  rw [Nat.add_zero] at r0
  clear hz0 hz1 hI hao
  generalize zs.length = Z at *
  obtain ⟨n, hn⟩ : ∃ n, z0 * 256 + z1 = n := ⟨_, rfl⟩
  have o1 : bits .or .i64 ((z0 : Int) * 256) (z1 : Int) = (n : Int) := by rw [or_byte z0 z1 (by omega) g1]; omega
  rw [hn] at hbad
  clear hn
  have i1 : (1 : Int) < (Z : Int) := by omega
  have i2 : (0 : Int) < (Z : Int) := by omega
  by_cases hx : n = Z - 2
  · have hy : ((n : Int) != (Z : Int) - 2) = false := by simp; omega
    have hz : ((n : Int) == 0) = true := by simp; omega
    clear hbad hx
    go_enter Ybaf.func5, Ybaf.ntmps5
    go_wp2_with fail
    go_quiet (fail)
    go_wp2_with fail
    go_ret2
    exact ⟨below_drewN (Below.refl _ _) _, Or.inr ⟨rfl, rfl⟩⟩
  · have hy : ((n : Int) != (Z : Int) - 2) = true := by rw [bne_iff_ne]; omega
    clear hbad hx
    go_enter Ybaf.func5, Ybaf.ntmps5
    go_wp2_with fail
    go_quiet (fail)
    go_wp2_with fail
    go_ret2
    exact ⟨below_drewN (Below.refl _ _) _, Or.inr ⟨rfl, rfl⟩⟩

set_option maxRecDepth 100000 in
set_option maxHeartbeats 2000000 in
theorem model_loop (b o : Nat) (zs : List Nat) (a : Addr) (s : ByteArray) (ao : Option Addr) (cap : Nat) (w : World) (hI : Inp w b o zs a s) (hcap : zs.length ≤ cap) (hao : 0 < cap → ao = some ⟨b, o, none⟩) (hZ : zs.length ≤ 70000) (h2 : 2 ≤ zs.length) (hgood : zs.getD 0 0 * 256 + zs.getD 1 0 = zs.length - 2 ∧ zs.length ≠ 2) :
    Calls Ybaf.prog 5 #[.slice ao zs.length cap] w fun e w' => Mod w (psn zs) e w' := by
  obtain rfl := hao (by omega)
  have HI : Hid _ := hI
  obtain ⟨z0, hz0⟩ : ∃ z0, zs.getD 0 0 = z0 := ⟨_, rfl⟩
  obtain ⟨z1, hz1⟩ : ∃ z1, zs.getD 1 0 = z1 := ⟨_, rfl⟩
  have r0 := hI.byte 0 (by omega)
  have r1 := hI.byte 1 (by omega)
  have g0 := hI.small 0
  have g1 := hI.small 1
  have HS : Hid (ents (zs.length - 2 + 1) (zs.drop 2) [] = psn zs) := by
    unfold Hid
    rw [psn_two zs h2, if_pos hgood]
  rw [hz0] at hgood r0 g0
  rw [hz1] at hgood r1 g1
  rw [Nat.add_zero] at r0
  clear hz0 hz1 hI hao
  obtain ⟨n, hn⟩ : ∃ n, z0 * 256 + z1 = n := ⟨_, rfl⟩
  have o1 : bits .or .i64 ((z0 : Int) * 256) (z1 : Int) = (n : Int) := by rw [or_byte z0 z1 (by omega) g1]; omega
  rw [hn] at hgood
  clear hn
  obtain ⟨Z, hZe⟩ : ∃ Z, zs.length = Z := ⟨_, rfl⟩
  rw [hZe] at hgood hcap hZ h2
  have HZ : Hid _ := hZe
  have i1 : (1 : Int) < (Z : Int) := by omega
  have i2 : (0 : Int) < (Z : Int) := by omega
  have hy : ((n : Int) != (Z : Int) - 2) = false := by simp; omega
  have hz : ((n : Int) == 0) = false := beq_eq_false_iff_ne.2 (by omega)
  rw [hZe]
  clear hZe hgood
  go_enter Ybaf.func5, Ybaf.ntmps5
  go_wp2_with fail
  go_quiet (fail)
  go_wp2_with fail
  clear r0 r1 o1 hy hz
  go_loopg [5, 6] (Z - 2) (fun m v5 v6 wr => ∃ p h f, p + m = Z ∧ v5 = .int .i64 (p : Int) ∧ v6 = .string (str h) ∧ m < f ∧ ents f (zs.drop p) h = psn zs ∧ Below w.heap.size w wr)
  case atStart => exact ⟨2, [], Z - 2 + 1, by omega, rfl, rfl, by omega, by have := HS.out; rw [HZ.out] at this; exact this, below_drewN (Below.refl _ _) _⟩
  case round =>
    obtain ⟨p, h, f, hp, rfl, rfl, hf, he, hB⟩ := hrel
    have HE : Hid _ := he
    have HB : Hid _ := hB
    have HP : Hid _ := hp
    have hpZ : p ≤ Z := by omega
    clear he hB hp
    by_cases hm : gk = 0
    · have hpp : ¬ (p : Int) < (Z : Int) := by have := HP.out; omega
      have HR2 : Hid (psn zs = some h) := by
        unfold Hid
        rw [← HE.out, List.drop_of_length_le (by have := HP.out; have := HZ.out; omega)]
        match f, hf with
        | f + 1, _ => rfl
      go_wp2_with fail
      go_ret2
      exact ⟨HB.out, Or.inl ⟨h, HR2.out, rfl⟩⟩
    · have hpp : (p : Int) < (Z : Int) := by have := HP.out; omega
      obtain ⟨f', rfl⟩ : ∃ f', f = f' + 1 := ⟨f - 1, by omega⟩
      by_cases h3 : gk < 3
      · have h3' : (Z : Int) - (p : Int) < 3 := by have := HP.out; omega
        have HNO : Hid (psn zs = none) := by
          unfold Hid
          have hP := HP.out
          have hZ2 := HZ.out
          rw [← HE.out]
          refine ents_short _ _ _ (fun e => ?_) (by rw [List.length_drop]; omega)
          have := congrArg List.length e
          rw [List.length_drop] at this
          simp at this
          omega
        go_wp2_with fail
        go_ret2
        exact ⟨HB.out, Or.inr ⟨HNO.out, rfl⟩⟩
      · have h3' : ¬ (Z : Int) - (p : Int) < 3 := by have := HP.out; omega
        obtain ⟨kd, hkd⟩ : ∃ kd, zs.getD p 0 = kd := ⟨_, rfl⟩
        obtain ⟨y1, hy1⟩ : ∃ y1, zs.getD (p + 1) 0 = y1 := ⟨_, rfl⟩
        obtain ⟨y2, hy2⟩ : ∃ y2, zs.getD (p + 2) 0 = y2 := ⟨_, rfl⟩
        have hZ2 := HZ.out
        have hP := HP.out
        have q0 := (HI.out.later HB.out).byte p (by omega)
        have q1 := (HI.out.later HB.out).byte (p + 1) (by omega)
        have q2 := (HI.out.later HB.out).byte (p + 2) (by omega)
        have e1 := HI.out.small (p + 1)
        have e2 := HI.out.small (p + 2)
        have HDR : Hid (zs.drop p = kd :: y1 :: y2 :: zs.drop (p + 3)) := by
          unfold Hid
          rw [drop_three zs p (by omega), hkd, hy1, hy2]
        have HLEN : Hid ((zs.drop (p + 3)).length = gk - 3) := by
          unfold Hid
          rw [List.length_drop]
          omega
        rw [hkd] at q0
        rw [hy1] at q1 e1
        rw [hy2] at q2 e2
        obtain ⟨l, hl⟩ : ∃ l, y1 * 256 + y2 = l := ⟨_, rfl⟩
        have o1 : bits .or .i64 ((y1 : Int) * 256) (y2 : Int) = (l : Int) := by rw [or_byte y1 y2 (by omega) e2]; omega
        have HL : Hid _ := hl
        have hlb : l < 65536 := by omega
        have p1 : (p : Int) + 1 < (Z : Int) := by omega
        have p2 : (p : Int) + 2 < (Z : Int) := by omega
        clear hkd hy1 hy2 hl hZ2 hP
        by_cases hlong : gk - 3 < l
        · have hlong' : (Z : Int) - ((p : Int) + 3) < (l : Int) := by have := HP.out; omega
          have HNO : Hid (psn zs = none) := by
            unfold Hid
            rw [← HE.out, HDR.out]
            exact ents_past _ _ _ _ _ _ (by rw [HLEN.out, HL.out]; exact hlong)
          clear hlong
          go_wp2_with fail
          go_quiet (fail)
          go_wp2_with fail
          go_ret2
          exact ⟨below_drewN HB.out _, Or.inr ⟨HNO.out, rfl⟩⟩
        · have hlong' : ¬ (Z : Int) - ((p : Int) + 3) < (l : Int) := by have := HP.out; omega
          obtain ⟨r2, hr2⟩ : ∃ r2, l + r2 + 3 = gk := ⟨gk - 3 - l, by omega⟩
          have HR2 : Hid _ := hr2
          have HNL : Hid (¬ (zs.drop (p + 3)).length < y1 * 256 + y2) := by
            unfold Hid
            rw [HLEN.out, HL.out]
            exact hlong
          have c1 : (p : Int) + 3 ≤ (p : Int) + 3 + (l : Int) := by omega
          have c2 : (p : Int) + 3 + (l : Int) ≤ (cap : Int) := by have := HP.out; omega
          clear hlong hr2
          by_cases hk0 : kd = 0
          · have hk1 : ((kd : Int) != 0) = false := by simp [hk0]
            have HKK : Hid _ := hk0
            clear hk0
            by_cases hn2 : l = 0
            · have HNO : Hid (psn zs = none) := by
                unfold Hid
                rw [← HE.out, HDR.out, HKK.out]
                exact ents_bad _ _ _ _ _ HNL.out (Or.inl (by rw [HL.out]; exact hn2))
              have hn3 : ((l : Int) == 0) = true := by simp [hn2]
              clear hn2
              go_wp2_with fail
              go_quiet (fail)
              go_wp2_with fail
              all_goals
                go_ret2
                exact ⟨below_drewN HB.out _, Or.inr ⟨HNO.out, rfl⟩⟩
            · have hn3 : ((l : Int) == 0) = false := beq_eq_false_iff_ne.2 (by omega)
              have HN3 : Hid (0 < l) := Nat.pos_of_ne_zero hn2
              have hcc : ¬ cap = p + 3 := by have := HP.out; omega
              clear hn2
              by_cases hh : h = []
              · subst hh
                have hsn := str_nil
                obtain ⟨ys, hys⟩ : ∃ ys, (zs.drop (p + 3)).take l = ys := ⟨_, rfl⟩
                have HEN : Hid (ents f' (zs.drop (p + 3 + l)) ys = psn zs) := by
                  unfold Hid
                  rw [← HE.out, HDR.out, HKK.out, ents_take _ _ _ _ HNL.out (by rw [HL.out]; have := HN3.out; omega), HL.out, hys, List.drop_drop]
                have HYL : Hid (ys.length = l) := by
                  unfold Hid
                  rw [← hys, List.length_take, HLEN.out]
                  have := HR2.out
                  omega
                have HYB : Hid (∀ w4, Below w.heap.size w w4 → ∀ i, i < l → w4.cell? ⟨b, o + (p + 3) + i, none⟩ = some (.int .u8 ((ys.getD i 0 : Nat) : Int))) := by
                  intro w4 hb4 i hi
                  have hP := HP.out
                  have hR := HR2.out
                  have hZ3 := HZ.out
                  have h5 := (HI.out.later hb4).byte (p + 3 + i) (by omega)
                  have e1 : ys.getD i 0 = zs.getD (p + 3 + i) 0 := by
                    rw [← hys, List.getD_eq_getElem?_getD, List.getElem?_take, if_pos hi, List.getElem?_drop, ← List.getD_eq_getElem?_getD]
                  rw [e1, ← h5, show o + (p + 3) + i = o + (p + 3 + i) from by omega]
                have hcv := fun nq => conv_n 22 Ybaf.underlying22 (wr.drewN nq) b (o + (p + 3)) l (cap - (p + 3)) ys HYL.out (HYB.out (wr.drewN nq) (below_drewN HB.out nq))
                clear hys
                go_wp2_with fail
                go_quiet (fail)
                go_wp2_with fail
                go_roundg r2
                case measure => have := HR2.out; omega
                case rel =>
                  have hP := HP.out
                  have hR := HR2.out
                  exact ⟨p + 3 + l, ys, f', by omega, by go_num, rfl, by omega, HEN.out, below_drewN HB.out _⟩
              · have hsn := str_full h hh
                have HNO : Hid (psn zs = none) := by
                  unfold Hid
                  rw [← HE.out, HDR.out, HKK.out]
                  exact ents_bad _ _ _ _ _ HNL.out (Or.inr hh)
                clear hh
                go_wp2_with fail
                go_quiet (fail)
                go_wp2_with fail
                go_ret2
                exact ⟨below_drewN HB.out _, Or.inr ⟨HNO.out, rfl⟩⟩
          · have hk1 : ((kd : Int) != 0) = true := by rw [bne_iff_ne]; omega
            have HEN : Hid (ents f' (zs.drop (p + 3 + l)) h = psn zs) := by
              unfold Hid
              rw [← HE.out, HDR.out, ents_skip _ _ _ _ _ _ HNL.out hk0, HL.out, List.drop_drop]
            generalize h = hh0 at *
            clear hk0
            by_cases hcc : cap = p + 3
            · subst hcc
              have c3 : (p : Int) + 3 + (l : Int) ≤ (p : Int) + 3 := by simpa using c2
              clear c2
              go_wp2_with fail
              go_quiet (fail)
              go_wp2_with fail
              go_roundg r2
              case measure => have := HR2.out; omega
              case rel =>
                have hP := HP.out
                have hR := HR2.out
                exact ⟨p + 3 + l, hh0, f', by omega, by go_num, rfl, by omega, HEN.out, below_drewN HB.out _⟩
            · go_wp2_with fail
              go_quiet (fail)
              go_wp2_with fail
              go_roundg r2
              case measure => have := HR2.out; omega
              case rel =>
                have hP := HP.out
                have hR := HR2.out
                exact ⟨p + 3 + l, hh0, f', by omega, by go_num, rfl, by omega, HEN.out, below_drewN HB.out _⟩

theorem model_any (b o : Nat) (zs : List Nat) (a : Addr) (s : ByteArray) (ao : Option Addr) (cap : Nat) (w : World) (hI : Inp w b o zs a s) (hcap : zs.length ≤ cap) (hao : 0 < cap → ao = some ⟨b, o, none⟩) (hZ : zs.length ≤ 70000) :
    Calls Ybaf.prog 5 #[.slice ao zs.length cap] w fun e w' => Mod w (psn zs) e w' := by
  by_cases h2 : zs.length < 2
  · rw [psn_short zs h2]
    exact model_short zs ao cap w h2
  · by_cases hg : zs.getD 0 0 * 256 + zs.getD 1 0 = zs.length - 2 ∧ zs.length ≠ 2
    · exact model_loop b o zs a s ao cap w hI hcap hao hZ (by omega) hg
    · rw [psn_two zs (by omega), if_neg hg]
      exact model_e b o zs a s ao cap w hI hcap hao hZ (by omega) hg
end Go.Proofs.YbulkabacFmt
