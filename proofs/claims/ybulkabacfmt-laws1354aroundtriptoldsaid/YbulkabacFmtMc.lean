/-
  LawS1354AModel, walked.
-/
import Derived.Test.YbulkabacFmtMo
namespace Go.Proofs.YbulkabacFmt
open Go.RowKit Go.Extern.Stop Go.Stop Go.Extern

theorem iface26 : Ybaf.prog.isIface 26 = true := by kernel_rfl

theorem law_model_long (ao : Option Addr) (Z cap : Nat) (w : World) (hZ : 70000 < Z) :
    Calls Ybaf.prog 3 #[.slice ao Z cap] w fun e w' => e = .returned (.bool true) ∧ Below w.heap.size w w' := by
  have hZ' : (70000 : Int) < (Z : Int) := by omega
  go_enter Ybaf.func3, Ybaf.ntmps3
  go_wp2
  go_ret
  exact ⟨rfl, Below.refl _ _⟩

theorem Mod.some_of {w w' : World} {R : Option (List Nat)} {e : Ending} {h : List Nat} (m : Mod w R e w') (hR : R = some h) : e = .returned (.tuple #[.string (str h), .bool true]) ∧ Below w.heap.size w w' := by
  obtain ⟨hb, ⟨h', h1, h2⟩ | ⟨h1, _⟩⟩ := m
  · obtain rfl := Option.some.inj (hR.symm.trans h1); exact ⟨h2, hb⟩
  · rw [hR] at h1; cases h1

theorem Mod.none_of {w w' : World} {R : Option (List Nat)} {e : Ending} (m : Mod w R e w') (hR : R = none) : e = .returned (.tuple #[.string ⟨#[]⟩, .bool false]) ∧ Below w.heap.size w w' := by
  obtain ⟨hb, ⟨h', h1, h2⟩ | ⟨h1, h2⟩⟩ := m
  · rw [hR] at h1; cases h1
  · exact ⟨h2, hb⟩

theorem Res.some_of {w w' : World} {a : Addr} {R : Option (List Nat)} {e : Ending} {h : List Nat} (m : Res w a R e w') (hR : R = some h) : e = .returned (.tuple #[.string (str h), .nilIface]) ∧ Below w.heap.size w w' := by
  obtain ⟨hb, ⟨h', h1, h2⟩ | ⟨h1, _⟩⟩ := m
  · obtain rfl := Option.some.inj (hR.symm.trans h1); exact ⟨h2, hb⟩
  · rw [hR] at h1; cases h1

theorem Res.none_of {w w' : World} {a : Addr} {R : Option (List Nat)} {e : Ending} (m : Res w a R e w') (hR : R = none) : ∃ p, e = .returned (.tuple #[.string ⟨#[]⟩, .iface 49 (.pointer (some ⟨p, 0, none⟩))]) ∧ w'.cell? ⟨p, 0 + 1, none⟩ = some (.iface 61 (.pointer (some a))) ∧ Below w.heap.size w w' := by
  obtain ⟨hb, ⟨h', h1, h2⟩ | ⟨h1, p, h2, h3⟩⟩ := m
  · rw [hR] at h1; cases h1
  · exact ⟨p, h2, h3, hb⟩

set_option maxRecDepth 100000 in
set_option maxHeartbeats 2000000 in
theorem law_model (F : Interp) (b o : Nat) (zs : List Nat) (a : Addr) (s : ByteArray) (ao : Option Addr) (cap : Nat) (w : World) (hF : F.answers w.tape) (hI : Inp w b o zs a s) (hcap : zs.length ≤ cap) (hao : 0 < cap → ao = some ⟨b, o, none⟩) :
    Calls Ybaf.prog 3 #[.slice ao zs.length cap] w fun e w' => e = .returned (.bool true) ∧ Below w.heap.size w w' := by
  by_cases hlong : 70000 < zs.length
  · exact law_model_long ao zs.length cap w hlong
  · have hZ : zs.length ≤ 70000 := by omega
    have hl' : ¬ (70000 : Int) < (zs.length : Int) := by omega
    have hi := iface26
    have HI : Hid _ := hI
    have HM : Hid (Calls Ybaf.prog 5 #[.slice ao zs.length cap] w fun e w' => Mod w (psn zs) e w') := model_any b o zs a s ao cap w hI hcap hao hZ
    have HP : Hid (∀ w1, Below w.heap.size w w1 → Calls Ybaf.prog 6 #[.slice ao zs.length cap] w1 fun e w' => Res w1 a (psn zs) e w') := fun w1 h1 =>
      parse_any F b o zs a s ao cap w1 (by have h := hF; rw [← h1.tape] at h; exact h) (hI.later h1) hcap hao hZ
    clear hI hF hcap hao hlong hZ
    cases hq : psn zs with
    | none =>
      have HQ : Hid _ := hq
      clear hq
      go_enter Ybaf.func3, Ybaf.ntmps3
      go_wp2_with (first
        | (go_at_call 5; refine HM.out.mono ?_; intro e w1 hm; obtain ⟨rfl, hb1⟩ := hm.none_of HQ.out; clear hm; have HB1 : Hid _ := hb1; clear hb1)
        | (go_at_call 6; refine (HP.out _ HB1.out).mono ?_; intro e w2 hm; obtain ⟨p, rfl, hp, hb2⟩ := hm.none_of HQ.out; clear hm; have HB2 : Hid (Below w.heap.size w w2) := HB1.out.trans (hb2.mono HB1.out.size); clear hb2; have hg := (HI.out.later HB2.out).glob; have HPP : Hid _ := hp; clear hp)
        | (go_at_call 7; refine (is_wrap_same p 0 a _ HPP.out).mono ?_; rintro e w3 ⟨rfl, hw⟩; rw [hw]; clear hw w3))
      go_ret
      exact ⟨rfl, HB2.out⟩
    | some h =>
      have HQ : Hid _ := hq
      clear hq
      go_enter Ybaf.func3, Ybaf.ntmps3
      go_wp2_with (first
        | (go_at_call 5; refine HM.out.mono ?_; intro e w1 hm; obtain ⟨rfl, hb1⟩ := hm.some_of HQ.out; clear hm; have HB1 : Hid _ := hb1; clear hb1)
        | (go_at_call 6; refine (HP.out _ HB1.out).mono ?_; intro e w2 hm; obtain ⟨rfl, hb2⟩ := hm.some_of HQ.out; clear hm; have HB2 : Hid (Below w.heap.size w w2) := HB1.out.trans (hb2.mono HB1.out.size); clear hb2))
      go_ret
      exact ⟨rfl, HB2.out⟩
end Go.Proofs.YbulkabacFmt
