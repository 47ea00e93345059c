/-
  The walk of LawS1352BBoundary.
-/
import Derived.Test.YbulkaazaFmtFacts
import Derived.WalkKit
import Derived.ProofKit
import Derived.Handy
import Derived.WalkSpells
import Derived.WalkSmall
import Derived.BigQuiet
import Derived.Deep.QuietTactic
import Derived.Deep.OwnRows
import Derived.Deep.LoopGhost
namespace Go.Proofs.YbulkaazaFmt
open Go.RowKit Go.Extern.Stop Go.Stop Go.Extern

theorem ok_any (n : Int) (w : World) : Calls Ybaf.prog 6 #[.int .i64 n] w fun e w' => e = .returned (.bool (decide (n ≤ 512))) ∧ w' = w := by
  go_enter Ybaf.func6, Ybaf.ntmps6
  go_wp2
  go_ret
  exact ⟨rfl, rfl⟩

theorem meta_ok (a : Option Addr) (n c : Nat) (h : n ≤ 512) (w : World) : Calls Ybaf.prog 5 #[.slice a n c] w fun e w' => e = .returned .nilIface ∧ Below w.heap.size w w' := by
  go_enter Ybaf.func5, Ybaf.ntmps5
  go_wp2
  go_ret
  exact ⟨rfl, Below.refl _ _⟩

set_option maxHeartbeats 1000000 in
theorem meta_long (F : Interp) (a : Option Addr) (n c : Nat) (h : 512 < n) (w : World) (hF : F.answers w.tape) : Calls Ybaf.prog 5 #[.slice a n c] w fun e w' => (∃ p, e = .returned (.iface 33 (.pointer (some p)))) ∧ Below w.heap.size w w' := by
  have hF' := answers_open hF
  go_enter Ybaf.func5, Ybaf.ntmps5
  go_wp2
  go_ret
  exact ⟨⟨_, rfl⟩, by go_grown⟩

theorem info5 : (Ybaf.prog.info? 5).map (fun i => (i.zero, i.size, i.bytes)) = some (some (.int .u8 0), 1, 1) := by kernel_rfl
theorem iface24 : Ybaf.prog.isIface 24 = true := by kernel_rfl

set_option maxHeartbeats 2000000 in
theorem boundary_any (F : Interp) (d fill : Int) (h0 : 0 ≤ d) (h1 : d ≤ 255) (w : World) (hF : F.answers w.tape) :
    Calls Ybaf.prog 4 #[.int .u8 d, .int .u8 fill] w fun e w' => e = .returned (.bool true) ∧ Below w.heap.size w w' := by
  have hi := iface24
  obtain ⟨L, hL, hL1, hL2⟩ : ∃ L : Nat, 512 + d % 5 - 2 = (L : Int) ∧ 510 ≤ L ∧ L ≤ 514 := ⟨(512 + d % 5 - 2).toNat, by omega, by omega, by omega⟩
  have hmk := fun w => run_make_row' (P := Ybaf.prog) 22 5 (.int .u8 0) 1 Ybaf.underlying22 info5 rfl .i64 .i64 L (by omega) (by omega) w
  have HF : Hid _ := hF
  clear hF
  go_enter Ybaf.func4, Ybaf.ntmps4
  go_wp2_with fail
  go_loopg [7] L (fun r v wr => ∃ i : Nat, i + r = L ∧ v = .int .i64 (i : Int) ∧ (∃ f, wr.rowIs w.heap.size 5 L f) ∧ Below w.heap.size w wr)
  case atStart => exact ⟨0, by omega, rfl, ⟨_, World.rowIs_made w (.int .u8 0) L 5⟩, (Below.refl _ _).alloc (Nat.le_refl _) _⟩
  case round =>
    obtain ⟨i, hi', rfl, ⟨f, hr⟩, hB⟩ := hrel
    by_cases hlt : i < L
    · have hlt' : (i : Int) < (L : Int) := by omega
      have hc := hr.cell hlt
      have hz := hr.frozen i
      have HR : Hid _ := hr.set i (.int .u8 fill)
      have HB : Hid (Below w.heap.size w (wr.setCell ⟨w.heap.size, i, none⟩ (.int .u8 fill))) := hB.setCell (p := ⟨w.heap.size, i, none⟩) (Nat.le_refl _) _
      have HD : Hid _ := hi'
      clear hr hB hi'
      go_wp2_with fail
      go_roundg (gk - 1)
      case measure => have := HD.out; omega
      case rel => exact ⟨i + 1, by have := HD.out; omega, by go_num, ⟨_, HR.out⟩, HB.out⟩
    · have HB : Hid _ := hB
      have HF2 : Hid (F.answers wr.tape) := by have h := HF.out; rw [← hB.tape] at h; exact h
      clear hi' hB hr
      by_cases h5 : L ≤ 512
      · have hd : (L : Int) ≤ 512 := by omega
        go_wp2_with (first | (go_at_call 5; refine (meta_ok _ _ _ h5 _).mono ?_; rintro e w1 ⟨rfl, hb⟩))
        go_quiet ((go_at_call 6; exact Calls.quiet_of_same (ok_any _ _)))
        go_wp2
        go_ret
        exact ⟨rfl, below_drewN (HB.out.trans (hb.mono HB.out.size)) _⟩
      · have hd : decide ((L : Int) ≤ 512) = false := by simp; omega
        go_wp2_with (first | (go_at_call 5; refine (meta_long F _ _ _ (by omega) _ (by exact HF2.out)).mono ?_; rintro e w1 ⟨⟨p, rfl⟩, hb⟩))
        go_quiet ((go_at_call 6; exact Calls.quiet_of_same (ok_any _ _)))
        go_wp2
        go_ret
        exact ⟨rfl, below_drewN (HB.out.trans (hb.mono HB.out.size)) _⟩
end Go.Proofs.YbulkaazaFmt
