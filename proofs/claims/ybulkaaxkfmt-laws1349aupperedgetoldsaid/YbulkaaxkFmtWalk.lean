/-
  The contracts of Compare, Within, String, Errorf, CheckWritable and the model of the law.
-/
import Derived.Test.YbulkaaxkFmtFacts
import Derived.WalkKit
import Derived.ProofKit
import Derived.Handy
import Derived.WalkSpells
import Derived.BigQuiet
import Derived.Deep.QuietTactic
namespace Go.Proofs.YbulkaaxkFmt
open Go.RowKit Go.Extern.Stop Go.Stop Go.Extern

def sgn (x y : Int) : Int := if x < y then -1 else if y < x then 1 else 0

theorem cmp_any (x y : Int) (w : World) :
    Calls Ybaf.prog 13 #[.int .i64 x, .int .i64 y] w fun e w' => e = .returned (.int .i64 (sgn x y)) ∧ w' = w := by
  by_cases h1 : x < y
  · go_enter Ybaf.func13, Ybaf.ntmps13
    go_wp2
    go_ret
    exact ⟨by simp [sgn, h1], rfl⟩
  · by_cases h2 : y < x
    · go_enter Ybaf.func13, Ybaf.ntmps13
      go_wp2
      go_ret
      exact ⟨by simp [sgn, h1, h2], rfl⟩
    · have H : Hid (sgn x y = 0) := by simp [Hid, sgn, h1, h2]
      go_enter Ybaf.func13, Ybaf.ntmps13
      go_wp2
      go_ret
      exact ⟨by rw [H.out]; rfl, rfl⟩

def cmpD (y m d y' m' d' : Int) : Int := if y = y' then (if m = m' then sgn d d' else sgn m m') else sgn y y'

abbrev D (y m d : Int) : Value := .agg #[.int .i64 y, .int .i64 m, .int .i64 d]
abbrev B (y m d : Int) : Obj := .cells #[.int .i64 y, .int .i64 m, .int .i64 d] 23

theorem compare_any (y m d y' m' d' : Int) (w : World) :
    Calls Ybaf.prog 9 #[D y m d, D y' m' d'] w fun e w' => e = .returned (.int .i64 (cmpD y m d y' m' d')) ∧ w' = (w.alloc (B y m d)).alloc (B y' m' d') := by
  by_cases h1 : y = y'
  · have h1' : (y != y') = false := by simp [h1]
    by_cases h2 : m = m'
    · have h2' : (m != m') = false := by simp [h2]
      have H : Hid (cmpD y m d y' m' d' = sgn d d') := by simp [Hid, cmpD, h1, h2]
      clear h1 h2
      go_enter Ybaf.func9, Ybaf.ntmps9
      go_wp2_with (first | (go_at_call 13; refine (cmp_any _ _ _).mono ?_; rintro e w1 ⟨rfl, hw1⟩; rw [hw1]; clear hw1 w1))
      go_ret
      exact ⟨by rw [H.out]; rfl, rfl⟩
    · have h2' : (m != m') = true := by simp [h2]
      have H : Hid (cmpD y m d y' m' d' = sgn m m') := by simp [Hid, cmpD, h1, h2]
      clear h1 h2
      go_enter Ybaf.func9, Ybaf.ntmps9
      go_wp2_with (first | (go_at_call 13; refine (cmp_any _ _ _).mono ?_; rintro e w1 ⟨rfl, hw1⟩; rw [hw1]; clear hw1 w1))
      go_ret
      exact ⟨by rw [H.out]; rfl, rfl⟩
  · have h1' : (y != y') = true := by simp [h1]
    have H : Hid (cmpD y m d y' m' d' = sgn y y') := by simp [Hid, cmpD, h1]
    clear h1
    go_enter Ybaf.func9, Ybaf.ntmps9
    go_wp2_with (first | (go_at_call 13; refine (cmp_any _ _ _).mono ?_; rintro e w1 ⟨rfl, hw1⟩; rw [hw1]; clear hw1 w1))
    go_ret
    exact ⟨by rw [H.out]; rfl, rfl⟩

def withinB (y m d : Int) : Bool := decide (0 ≤ cmpD y m d 1 1 1) && decide (cmpD y m d 9999 12 31 ≤ 0)

set_option maxHeartbeats 1000000 in
theorem within_any (y m d : Int) (w : World) :
    Calls Ybaf.prog 7 #[D y m d, D 1 1 1, D 9999 12 31] w fun e w' => e = .returned (.bool (withinB y m d)) ∧ Below w.heap.size w w' := by
  by_cases h1 : 0 ≤ cmpD y m d 1 1 1
  · have H : Hid (withinB y m d = decide (cmpD y m d 9999 12 31 ≤ 0)) := by simp [Hid, withinB, h1]
    go_enter Ybaf.func7, Ybaf.ntmps7
    go_wp2_with (first | (go_at_call 9; refine (compare_any _ _ _ _ _ _ _).mono ?_; rintro e w1 ⟨rfl, hw1⟩; rw [hw1]; clear hw1 w1))
    go_ret
    exact ⟨by rw [H.out]; rfl, by go_grown⟩
  · have H : Hid (withinB y m d = false) := by simp [Hid, withinB, h1]
    go_enter Ybaf.func7, Ybaf.ntmps7
    go_wp2_with (first | (go_at_call 9; refine (compare_any _ _ _ _ _ _ _).mono ?_; rintro e w1 ⟨rfl, hw1⟩; rw [hw1]; clear hw1 w1))
    go_ret
    exact ⟨by rw [H.out]; rfl, by go_grown⟩

set_option maxHeartbeats 1000000 in
theorem string_any (F : Interp) (y m d : Int) (w : World) (hF : F.answers w.tape) :
    Calls Ybaf.prog 12 #[D y m d] w fun e w' => ∃ s, e = .returned (.string s) ∧ ∃ o, w' = ((w.alloc (B y m d)).alloc o).drew := by
  have hF' := answers_open hF
  go_enter Ybaf.func12, Ybaf.ntmps12
  go_wp2
  go_ret
  exact ⟨_, rfl, _, rfl⟩

/-- The two listed variables, as the walk reads them. -/
def Laid (w : World) : Prop := (w.cell? ⟨0, 0, none⟩ = some (.int .i64 1) ∧ w.cell? ⟨0, 1, none⟩ = some (.int .i64 1) ∧ w.cell? ⟨0, 2, none⟩ = some (.int .i64 1)) ∧
  (w.cell? ⟨1, 0, none⟩ = some (.int .i64 9999) ∧ w.cell? ⟨1, 1, none⟩ = some (.int .i64 12) ∧ w.cell? ⟨1, 2, none⟩ = some (.int .i64 31))

theorem bcell {W w1 : World} (hb : Below W.heap.size W w1) : (∀ b o, b < W.heap.size → w1.cell? ⟨b, o, none⟩ = W.cell? ⟨b, o, none⟩) ∧ (∀ b o, b < W.heap.size → w1.frozen? ⟨b, o, none⟩ = W.frozen? ⟨b, o, none⟩) :=
  ⟨fun b o h => hb.cell (p := ⟨b, o, none⟩) h, fun b o h => hb.frozen (p := ⟨b, o, none⟩) h⟩


theorem after {w w1 : World} {y m d : Int} (hb : Below (w.alloc (B y m d)).heap.size (w.alloc (B y m d)) w1) (hL : Laid w) :
    (Laid w1 ∧ w1.cell? ⟨w.heap.size, 0, none⟩ = some (.int .i64 y) ∧ w1.cell? ⟨w.heap.size, 1, none⟩ = some (.int .i64 m) ∧ w1.cell? ⟨w.heap.size, 2, none⟩ = some (.int .i64 d)) ∧
      w.heap.size < w1.heap.size ∧ w1.tape = w.tape ∧ Below w.heap.size w w1 := by
  obtain ⟨⟨a0, a1, a2⟩, b0, b1, b2⟩ := hL
  have l0 : 0 < w.heap.size := World.block_lt_of_cell? w _ a0
  have l1 : 1 < w.heap.size := World.block_lt_of_cell? w _ b0
  have hsz : (w.alloc (B y m d)).heap.size = w.heap.size + 1 := by simp
  have old : ∀ b o, b < w.heap.size → w1.cell? ⟨b, o, none⟩ = w.cell? ⟨b, o, none⟩ := fun b o h => (hb.cell (p := ⟨b, o, none⟩) (by rw [hsz]; show b < _; omega)).trans (World.cell?_of_block (Below.heap_alloc w _ b h))
  have new : ∀ o, w1.cell? ⟨w.heap.size, o, none⟩ = (w.alloc (B y m d)).cell? ⟨w.heap.size, o, none⟩ := fun o => hb.cell (p := ⟨w.heap.size, o, none⟩) (by rw [hsz]; show w.heap.size < _; omega)
  refine ⟨⟨⟨⟨by rw [old _ _ l0, a0], by rw [old _ _ l0, a1], by rw [old _ _ l0, a2]⟩, by rw [old _ _ l1, b0], by rw [old _ _ l1, b1], by rw [old _ _ l1, b2]⟩, ?_, ?_, ?_⟩, ?_, hb.tape, ?_⟩
  · rw [new]; simp [go_sem]
  · rw [new]; simp [go_sem]
  · rw [new]; simp [go_sem]
  · have := hb.size; omega
  · exact ((Below.refl _ _).alloc (Nat.le_refl _) _).trans (hb.mono (by omega))

set_option maxHeartbeats 2000000 in
/-- fmt.Errorf at this format and three dates. -/
theorem errorf_any (F : Interp) (n : Nat) (y0 m0 d0 y1 m1 d1 y2 m2 d2 : Int) (w : World) (hF : F.answers w.tape) (hn : n < w.heap.size)
    (c0 : w.cell? ⟨n, 0, none⟩ = some (.iface 23 (D y0 m0 d0))) (c1 : w.cell? ⟨n, 1, none⟩ = some (.iface 23 (D y1 m1 d1))) (c2 : w.cell? ⟨n, 2, none⟩ = some (.iface 23 (D y2 m2 d2))) :
    Calls Ybaf.prog 8 #[.string ⟨#[37, 118, 32, 105, 115, 32, 111, 117, 116, 115, 105, 100, 101, 32, 37, 118, 32, 116, 111, 32, 37, 118, 44, 32, 116, 104, 101, 32, 100, 97, 116, 101, 115, 32, 116, 104, 101, 32, 102, 111, 114, 109, 97, 116, 32, 99, 97, 110, 32, 119, 114, 105, 116, 101]⟩, .slice (some ⟨n, 0, none⟩) 3 3] w
      fun e w' => (∃ a, e = .returned (.iface 37 (.pointer (some a)))) ∧ Below w.heap.size w w' := by
  have hF' := answers_open hF
  have n1 : n < w.heap.size + 1 := by omega
  have n2 : n < w.heap.size + 1 + 1 := by omega
  have n3 : n < w.heap.size + 1 + 1 + 1 := by omega
  have n4 : n < w.heap.size + 1 + 1 + 1 + 1 := by omega
  have n5 : n < w.heap.size + 1 + 1 + 1 + 1 + 1 := by omega
  have n6 : n < w.heap.size + 1 + 1 + 1 + 1 + 1 + 1 := by omega
  go_enter Ybaf.func8, Ybaf.ntmps8
  go_wp2
  apply rows_call nextTurns
  case hr =>
    go_simp
    exact ⟨⟨rfl, rfl, rfl⟩, rfl⟩
  case hi => exact invokeString23 _ _
  case hc =>
    refine (string_any F _ _ _ _ (by exact hF)).mono fun e w₃ ⟨s0, he, o0, hx⟩ => ?_
    subst he; subst hx
    apply rows_call nextReturned
    case hr =>
      go_simp
      exact ⟨⟨rfl, rfl, rfl⟩, rfl⟩
    case hi => exact invokeString23 _ _
    case hc =>
      refine (string_any F _ _ _ _ (by exact hF)).mono fun e w₃ ⟨s1, he, o1, hx⟩ => ?_
      subst he; subst hx
      apply rows_call nextReturned
      case hr =>
        go_simp
        exact ⟨⟨rfl, rfl, rfl⟩, rfl⟩
      case hi => exact invokeString23 _ _
      case hc =>
        refine (string_any F _ _ _ _ (by exact hF)).mono fun e w₃ ⟨s2, he, o2, hx⟩ => ?_
        subst he; subst hx
        apply rows_value nextReturned
        case hr =>
          go_simp
          exact ⟨rfl, rfl⟩
        case h =>
          go_wp2
          go_ret
          exact ⟨⟨_, rfl⟩, by go_grown⟩

set_option maxHeartbeats 1000000 in
theorem check_in (y m d : Int) (w : World) (hL : Laid w) (hw : withinB y m d = true) :
    Calls Ybaf.prog 5 #[D y m d] w fun e w' => e = .returned .nilIface ∧ Below w.heap.size w w' := by
  have HL : Hid _ := hL
  obtain ⟨⟨a0, a1, a2⟩, b0, b1, b2⟩ := hL
  have l0 := World.block_lt_of_cell? w _ a0
  have l1 := World.block_lt_of_cell? w _ b0
  have hnot : ∀ (x : Bool) (w : World), (Op.unary .not (.bool x)).run Ybaf.prog w = .ok (.bool (!x)) w := fun _ _ => rfl
  go_enter Ybaf.func5, Ybaf.ntmps5
  go_wp2_with (first | (go_at_call 7; refine (within_any y m d _).mono ?_; rintro e w1 ⟨rfl, hb⟩))
  go_ret
  exact ⟨rfl, (after hb HL.out).2.2.2⟩

set_option maxHeartbeats 1000000 in
theorem check_out (F : Interp) (y m d : Int) (w : World) (hF : F.answers w.tape) (hL : Laid w) (hw : withinB y m d = false) :
    Calls Ybaf.prog 5 #[D y m d] w fun e w' => (∃ a, e = .returned (.iface 37 (.pointer (some a)))) ∧ Below w.heap.size w w' := by
  have HL : Hid _ := hL
  have HF : Hid _ := hF
  clear hF
  obtain ⟨⟨a0, a1, a2⟩, b0, b1, b2⟩ := hL
  have l0 := World.block_lt_of_cell? w _ a0
  have l1 := World.block_lt_of_cell? w _ b0
  have hnot : ∀ (x : Bool) (w : World), (Op.unary .not (.bool x)).run Ybaf.prog w = .ok (.bool (!x)) w := fun _ _ => rfl
  go_enter Ybaf.func5, Ybaf.ntmps5
  go_wp2_with (first | (go_at_call 7; refine (within_any y m d _).mono ?_; rintro e w1 ⟨rfl, hb⟩; obtain ⟨⟨⟨⟨q0, q1, q2⟩, r0, r1, r2⟩, s0, s1, s2⟩, hz, ht, hB⟩ := after hb HL.out; have HB : Hid _ := hB; have HT : Hid _ := ht; clear hb hB ht))
  refine (errorf_any F w1.heap.size y m d 1 1 1 9999 12 31 _ (by have h := HF.out; rw [← HT.out] at h; exact h) (by simp) (by simp [go_sem]) (by simp [go_sem]) (by simp [go_sem])).mono ?_
  rintro e w2 ⟨⟨a, rfl⟩, hb2⟩
  go_wp2_with fail
  go_ret
  exact ⟨⟨a, rfl⟩, HB.out.trans (((Below.refl _ _).alloc (Nat.le_of_lt hz) _).trans (hb2.mono (by simp; omega)))⟩

def wantB (y m d : Int) : Bool := decide ((1 < y ∨ (y = 1 ∧ (1 < m ∨ (m = 1 ∧ 1 ≤ d)))) ∧ (y < 9999 ∨ (y = 9999 ∧ (m < 12 ∨ (m = 12 ∧ d ≤ 31)))))

theorem sgn_pos (x y : Int) : (0 ≤ sgn x y) ↔ y ≤ x := by
  unfold sgn
  split
  · constructor <;> intro h <;> omega
  · split
    · constructor <;> intro h <;> omega
    · constructor <;> intro h <;> omega

theorem sgn_neg (x y : Int) : (sgn x y ≤ 0) ↔ x ≤ y := by
  unfold sgn
  split
  · constructor <;> intro h <;> omega
  · split
    · constructor <;> intro h <;> omega
    · constructor <;> intro h <;> omega

theorem want_within (y m d : Int) : wantB y m d = withinB y m d := by
  unfold wantB withinB
  rw [Bool.eq_iff_iff]
  simp only [decide_eq_true_eq, Bool.and_eq_true]
  have e1 : (0 ≤ cmpD y m d 1 1 1) ↔ (1 < y ∨ (y = 1 ∧ (1 < m ∨ (m = 1 ∧ 1 ≤ d)))) := by
    unfold cmpD
    split
    · split
      · rw [sgn_pos]; omega
      · rw [sgn_pos]; omega
    · rw [sgn_pos]; omega
  have e2 : (cmpD y m d 9999 12 31 ≤ 0) ↔ (y < 9999 ∨ (y = 9999 ∧ (m < 12 ∨ (m = 12 ∧ d ≤ 31)))) := by
    unfold cmpD
    split
    · split
      · rw [sgn_neg]; omega
      · rw [sgn_neg]; omega
    · rw [sgn_neg]; omega
  rw [e1, e2]

theorem ret_bool {a b : Bool} (h : a = b) : Ending.returned (.bool a) = .returned (.bool b) := by rw [h]

set_option maxHeartbeats 2000000 in
theorem want_any (y m d : Int) (w : World) :
    Calls Ybaf.prog 6 #[.int .i64 y, .int .i64 m, .int .i64 d] w fun e w' => e = .returned (.bool (wantB y m d)) ∧ w' = w := by
  go_enter Ybaf.func6, Ybaf.ntmps6
  go_wp2
  all_goals
    go_ret
    refine ⟨ret_bool ?_, rfl⟩
    simp only [wantB]
    rw [Bool.eq_iff_iff]
    simp
    try omega
end Go.Proofs.YbulkaaxkFmt
