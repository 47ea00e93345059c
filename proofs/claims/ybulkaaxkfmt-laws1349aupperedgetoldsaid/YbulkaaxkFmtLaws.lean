/-
  The walks of the two laws.
-/
import Derived.Test.YbulkaaxkFmtWalk
import Derived.WalkSmall
namespace Go.Proofs.YbulkaaxkFmt
open Go.RowKit Go.Extern.Stop Go.Stop Go.Extern

theorem laid_alloc {w : World} (h : Laid w) (o : Obj) : Laid (w.alloc o) := by
  obtain ⟨⟨a0, a1, a2⟩, b0, b1, b2⟩ := h
  have l0 : 0 < w.heap.size := World.block_lt_of_cell? w _ a0
  have l1 : 1 < w.heap.size := World.block_lt_of_cell? w _ b0
  have old : ∀ b q, b < w.heap.size → (w.alloc o).cell? ⟨b, q, none⟩ = w.cell? ⟨b, q, none⟩ := fun b q h => World.cell?_of_block (Below.heap_alloc w o b h)
  exact ⟨⟨by rw [old _ _ l0, a0], by rw [old _ _ l0, a1], by rw [old _ _ l0, a2]⟩, by rw [old _ _ l1, b0], by rw [old _ _ l1, b1], by rw [old _ _ l1, b2]⟩

theorem iface25 : Ybaf.prog.isIface 25 = true := by kernel_rfl

set_option maxHeartbeats 2000000 in
theorem writable_any (F : Interp) (y m d : Int) (w : World) (hF : F.answers w.tape) (hL : Laid w) :
    Calls Ybaf.prog 3 #[.int .i64 y, .int .i64 m, .int .i64 d] w fun e w' => e = .returned (.bool true) ∧ Below w.heap.size w w' := by
  have hi := iface25
  have HL : Hid _ := laid_alloc hL (B y m d)
  have HF : Hid _ := hF
  clear hL hF
  cases hw : withinB y m d
  · have hwt : wantB y m d = false := by rw [want_within, hw]
    go_enter Ybaf.func3, Ybaf.ntmps3
    go_wp2_with (first | (go_at_call 5; refine (check_out F y m d _ (by exact HF.out) HL.out hw).mono ?_; rintro e w1 ⟨⟨a, rfl⟩, hb⟩))
    go_quiet ((go_at_call 6; exact Calls.quiet_of_same (want_any y m d _)))
    go_wp2
    go_ret
    exact ⟨rfl, below_drewN (((Below.refl _ _).alloc (Nat.le_refl _) _).trans (hb.mono (by simp))) _⟩
  · have hwt : wantB y m d = true := by rw [want_within, hw]
    go_enter Ybaf.func3, Ybaf.ntmps3
    go_wp2_with (first | (go_at_call 5; refine (check_in y m d _ HL.out hw).mono ?_; rintro e w1 ⟨rfl, hb⟩))
    go_quiet ((go_at_call 6; exact Calls.quiet_of_same (want_any y m d _)))
    go_wp2
    go_ret
    exact ⟨rfl, below_drewN (((Below.refl _ _).alloc (Nat.le_refl _) _).trans (hb.mono (by simp))) _⟩

set_option maxHeartbeats 2000000 in
theorem edge_any (F : Interp) (dy m d : Int) (h0 : -128 ≤ dy) (h1 : dy ≤ 127) (w : World) (hF : F.answers w.tape) (hL : Laid w) :
    Calls Ybaf.prog 4 #[.int .i8 dy, .int .i64 m, .int .i64 d] w fun e w' => e = .returned (.bool true) ∧ Below w.heap.size w w' := by
  have hi := iface25
  have HL : Hid _ := laid_alloc hL (B (9999 + dy) m d)
  have HF : Hid _ := hF
  clear hL hF
  cases hw : withinB (9999 + dy) m d
  · have hwt : wantB (9999 + dy) m d = false := by rw [want_within, hw]
    go_enter Ybaf.func4, Ybaf.ntmps4
    go_wp2_with (first | (go_at_call 5; refine (check_out F (9999 + dy) m d _ (by exact HF.out) HL.out hw).mono ?_; rintro e w1 ⟨⟨a, rfl⟩, hb⟩))
    go_quiet ((go_at_call 6; exact Calls.quiet_of_same (want_any (9999 + dy) m d _)))
    go_wp2
    go_ret
    exact ⟨rfl, below_drewN (((Below.refl _ _).alloc (Nat.le_refl _) _).trans (hb.mono (by simp))) _⟩
  · have hwt : wantB (9999 + dy) m d = true := by rw [want_within, hw]
    go_enter Ybaf.func4, Ybaf.ntmps4
    go_wp2_with (first | (go_at_call 5; refine (check_in (9999 + dy) m d _ HL.out hw).mono ?_; rintro e w1 ⟨rfl, hb⟩))
    go_quiet ((go_at_call 6; exact Calls.quiet_of_same (want_any (9999 + dy) m d _)))
    go_wp2
    go_ret
    exact ⟨rfl, below_drewN (((Below.refl _ _).alloc (Nat.le_refl _) _).trans (hb.mono (by simp))) _⟩
end Go.Proofs.YbulkaaxkFmt
