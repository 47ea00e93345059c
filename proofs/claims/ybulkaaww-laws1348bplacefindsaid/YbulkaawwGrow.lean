/-
  The contracts of free, empty and grow.
-/
import Derived.Test.YbulkaawwGrid
import Derived.Handy
import Derived.WalkSpells
import Derived.Deep.RegionLaw
import Derived.Deep.DrawnRows
namespace Go.Proofs.Ybulkaaww
open Go.RowKit

theorem free_any (g : Nat) (c0 c1 c2 : Value) (w : World) (h0 : w.cell? ⟨g, 0, none⟩ = some c0) (h1 : w.cell? ⟨g, 1, none⟩ = some c1) (h2 : w.cell? ⟨g, 2, none⟩ = some c2)
   (f : ∀ o, w.frozen? ⟨g, o, none⟩ = false) :
    Calls Yba.prog 10 #[.pointer (some ⟨g, 0, none⟩)] w fun e w' => e = .returned (.tuple #[]) ∧ w' = ((w.setCell ⟨g, 0, none⟩ (.slice none 0 0)).setCell ⟨g, 1, none⟩ (.slice none 0 0)).setCell ⟨g, 2, none⟩ (.int .i64 0) := by
  go_enter Yba.func10, Yba.ntmps10
  go_wp2
  go_returns
  exact ⟨rfl, rfl⟩

theorem empty_any (g : Nat) (n : Int) (w : World) (h2 : w.cell? ⟨g, 2, none⟩ = some (.int .i64 n)) :
    Calls Yba.prog 6 #[.pointer (some ⟨g, 0, none⟩)] w fun e w' => e = .returned (.bool (n == 0)) ∧ w' = w := by
  go_enter Yba.func6, Yba.ntmps6
  go_wp2
  go_returns
  exact ⟨rfl, rfl⟩

theorem info21 : (Yba.prog.info? 21).map (fun i => (i.zero, i.size, i.bytes)) = some (some (.int .i32 0), 1, 4) := by kernel_rfl
theorem info5 : (Yba.prog.info? 5).map (fun i => (i.zero, i.size, i.bytes)) = some (some (.int .u8 0), 1, 1) := by kernel_rfl
theorem info23 : (Yba.prog.info? 23).map (fun i => (i.zero, i.size, i.bytes)) = some (some (.slice none 0 0), 1, 24) := by kernel_rfl
theorem info25 : (Yba.prog.info? 25).map (fun i => (i.zero, i.size, i.bytes)) = some (some (.slice none 0 0), 1, 24) := by kernel_rfl

theorem tdiv_le (n : Int) (h : n ≤ 262144) : (n * 3).tdiv 2 ≤ 393216 := by
  rcases Int.lt_or_le n 0 with h0 | h0
  · have : (n * 3).tdiv 2 = - ((-(n * 3)).tdiv 2) := by rw [Int.neg_tdiv]; omega
    rw [this, Int.tdiv_eq_ediv_of_nonneg (by omega)]; omega
  · rw [Int.tdiv_eq_ediv_of_nonneg (by omega)]; omega

/-- What the walk wants of the struct's own cells behind an append to a row of the call's own. -/
theorem own_far {wr w1 : World} {A B : Obj} {row : Option Nat} {g : Nat} (hgrow : (((wr.alloc A).alloc B).drew).grownBy w1 row) (hlt : g < wr.heap.size) (hne : some g ≠ row) :
    (∀ o, w1.cell? ⟨g, o, none⟩ = wr.cell? ⟨g, o, none⟩) ∧ (∀ o, w1.frozen? ⟨g, o, none⟩ = wr.frozen? ⟨g, o, none⟩) := by
  have e : w1.heap[g]? = wr.heap[g]? := by
    rw [hgrow.block g (by simp; omega) hne]
    show ((wr.alloc A).alloc B).heap[g]? = _
    rw [Below.heap_alloc _ _ _ (by simp; omega), Below.heap_alloc _ _ _ hlt]
  exact ⟨fun o => World.cell?_of_block e, fun o => World.frozen?_of_block e⟩

theorem own_ne {w : World} {base : Nat} {e : TypeId} {size : Nat} {v : Value} {n : Nat} {xs : List Value} (h : w.ownsRow base e size v n xs) {g : Nat} (hg : g < base) : some g ≠ v.ownBlock := by
  intro e
  have := h.lt g e.symm
  omega

theorem two_new (w : World) (A : Obj) (cs : Array Value) (t : TypeId) : ∀ j u, cs.toList[j]? = some u → (((w.alloc A).alloc (.cells cs t)).drew).cell? ((⟨w.heap.size + 1, 0, none⟩ : Addr).add j) = some u := by
  refine World.news_of_block (t := t) (fr := (0, 0)) ?_
  have h := heap_alloc_new (w.alloc A) (.cells cs t)
  have e : (w.alloc A).heap.size = w.heap.size + 1 := by simp
  rw [e] at h
  exact h

/-- What holds of the table behind kb rounds for the blocks, kt for the tags. -/
def Half (g base N : Nat) (tg : Bool) (w : World) (kb kt : Nat) (w' : World) : Prop :=
  ∃ bv tv c2 bs ts, w'.cell? ⟨g, 0, none⟩ = some bv ∧ w'.cell? ⟨g, 1, none⟩ = some tv ∧ w'.cell? ⟨g, 2, none⟩ = some c2 ∧ w'.cell? ⟨g, 3, none⟩ = some (.bool tg) ∧
    (∀ o, w'.frozen? ⟨g, o, none⟩ = false) ∧ Grid w' base 23 21 N kb bv bs (fun _ => .int .i32 0) ∧
    (if tg = true then Grid w' base 25 5 N kt tv ts (fun _ => .int .u8 0) else tv = .slice none 0 0) ∧ Below g w w' ∧ base ≤ w'.heap.size ∧ g < base

theorem Half.plain {g base N : Nat} {w w' : World} {kb kt kt' : Nat} (h : Half g base N false w kb kt w') : Half g base N false w kb kt' w' := by
  obtain ⟨bv, tv, c2, bs, ts, e0, e1, e2, e3, fz, gb, gt, r⟩ := h
  exact ⟨bv, tv, c2, bs, ts, e0, e1, e2, e3, fz, gb, gt, r⟩

section
variable {g base N : Nat} {tg : Bool} {w wr w1 : World} {k : Nat} {bv tv c2 : Value} {bs ts : Nat → Nat}

theorem half1 (e1 : wr.cell? ⟨g, 1, none⟩ = some tv) (e2 : wr.cell? ⟨g, 2, none⟩ = some c2) (e3 : wr.cell? ⟨g, 3, none⟩ = some (.bool tg))
    (e0 : wr.cell? ⟨g, 0, none⟩ = some bv) (fz : ∀ o, wr.frozen? ⟨g, o, none⟩ = false) (gb : Grid wr base 23 21 N k bv bs (fun _ => .int .i32 0))
    (gt : if tg = true then Grid wr base 25 5 N k tv ts (fun _ => .int .u8 0) else tv = .slice none 0 0) (hbel : Below g w wr) (hsz : base ≤ wr.heap.size) (hgb : g < base)
    {B : Obj} {gg cap : Nat} (hgrow : (((wr.alloc (.cells (madeCells #[.int .i32 0] (sz N k)) 21)).alloc B).drew).grownBy w1 bv.ownBlock)
    (hown1 : w1.ownsRow base 23 1 (.slice (some ⟨gg, 0, none⟩) (k + 1) cap) (k + 1) ((List.range k).map (ent N bs) ++ [.slice (some ⟨wr.heap.size, 0, none⟩) (sz N k) (sz N k)])) :
    Half g base N tg w (k + 1) k (w1.setCell ⟨g, 0, none⟩ (.slice (some ⟨gg, 0, none⟩) (k + 1) cap)) := by
  have hlg : g < wr.heap.size := World.block_lt_of_cell? wr _ e0
  obtain ⟨hcf, hff⟩ := own_far hgrow hlg (own_ne gb.own hgb)
  have hbo : ∀ b, bv.ownBlock = some b → tyAt (((wr.alloc (.cells (madeCells #[.int .i32 0] (sz N k)) 21)).alloc B).drew) b = some 23 := fun b e => tyAt_own ((gb.own.alloc _).alloc _).drew e
  refine ⟨_, tv, c2, _, ts, ?_, ?_, ?_, ?_, ?_, (gb.push (by decide) B hgrow hown1 hsz).setBelow hgb _, ?_, ?_, ?_, hgb⟩
  · exact World.cell?_setCell_same _ _ _ (by rw [hcf, e0])
  · rw [World.cell?_setCell_other _ _ _ _ (by simp), hcf, e1]
  · rw [World.cell?_setCell_other _ _ _ _ (by simp), hcf, e2]
  · rw [World.cell?_setCell_other _ _ _ _ (by simp), hcf, e3]
  · intro o; rw [World.frozen?_setCell, hff, fz]
  · split
    · rename_i h
      rw [if_pos h] at gt
      exact (((gt.alloc _).alloc _).drew.far hgrow fun r e => by rw [hbo r e]; decide).setBelow hgb _
    · rename_i h
      rwa [if_neg h] at gt
  · refine Below.setCell (Below.grown ((hbel.alloc (by omega) _).alloc (by simp; omega) _).drew hgrow (by simp; omega) ?_) (Nat.le_refl _) _
    intro b e
    have := gb.own.lt b e
    omega
  · have := hgrow.size
    simp at this ⊢
    omega

theorem half2 (e1 : wr.cell? ⟨g, 1, none⟩ = some tv) (e2 : wr.cell? ⟨g, 2, none⟩ = some c2) (e3 : wr.cell? ⟨g, 3, none⟩ = some (.bool true))
    (e0 : wr.cell? ⟨g, 0, none⟩ = some bv) (fz : ∀ o, wr.frozen? ⟨g, o, none⟩ = false) (gb : Grid wr base 23 21 N (k + 1) bv bs (fun _ => .int .i32 0))
    (gt : Grid wr base 25 5 N k tv ts (fun _ => .int .u8 0)) (hbel : Below g w wr) (hsz : base ≤ wr.heap.size) (hgb : g < base)
    {B : Obj} {gg cap : Nat} (hgrow : (((wr.alloc (.cells (madeCells #[.int .u8 0] (sz N k)) 5)).alloc B).drew).grownBy w1 tv.ownBlock)
    (hown1 : w1.ownsRow base 25 1 (.slice (some ⟨gg, 0, none⟩) (k + 1) cap) (k + 1) ((List.range k).map (ent N ts) ++ [.slice (some ⟨wr.heap.size, 0, none⟩) (sz N k) (sz N k)])) :
    Half g base N true w (k + 1) (k + 1) (w1.setCell ⟨g, 1, none⟩ (.slice (some ⟨gg, 0, none⟩) (k + 1) cap)) := by
  have hlg : g < wr.heap.size := World.block_lt_of_cell? wr _ e0
  obtain ⟨hcf, hff⟩ := own_far hgrow hlg (own_ne gt.own hgb)
  have hbo : ∀ b, tv.ownBlock = some b → tyAt (((wr.alloc (.cells (madeCells #[.int .u8 0] (sz N k)) 5)).alloc B).drew) b = some 25 := fun b e => tyAt_own ((gt.own.alloc _).alloc _).drew e
  refine ⟨bv, _, c2, bs, _, ?_, ?_, ?_, ?_, ?_, (((gb.alloc _).alloc _).drew.far hgrow fun r e => by rw [hbo r e]; decide).setBelow hgb _, by rw [if_pos rfl]; exact (gt.push (by decide) B hgrow hown1 hsz).setBelow hgb _, ?_, ?_, hgb⟩
  · rw [World.cell?_setCell_other _ _ _ _ (by simp), hcf, e0]
  · exact World.cell?_setCell_same _ _ _ (by rw [hcf, e1])
  · rw [World.cell?_setCell_other _ _ _ _ (by simp), hcf, e2]
  · rw [World.cell?_setCell_other _ _ _ _ (by simp), hcf, e3]
  · intro o; rw [World.frozen?_setCell, hff, fz]
  · refine Below.setCell (Below.grown ((hbel.alloc (by omega) _).alloc (by simp; omega) _).drew hgrow (by simp; omega) ?_) (Nat.le_refl _) _
    intro b e
    have := gt.own.lt b e
    omega
  · have := hgrow.size
    simp at this ⊢
    omega
end



theorem below_set {g : Nat} {w wr : World} (h : Below g w wr) (o : Nat) (v : Value) : Below g w (wr.setCell ⟨g, o, none⟩ v) := h.setCell (p := ⟨g, o, none⟩) (Nat.le_refl g) v

theorem half_start {g base N : Nat} {tg : Bool} {w : World} {c0 c1 c2 : Value} (h0 : w.cell? ⟨g, 0, none⟩ = some c0) (h1 : w.cell? ⟨g, 1, none⟩ = some c1) (h2 : w.cell? ⟨g, 2, none⟩ = some c2) (h3 : w.cell? ⟨g, 3, none⟩ = some (.bool tg))
    (f : ∀ o, w.frozen? ⟨g, o, none⟩ = false) (hb : base ≤ w.heap.size) (hgb : g < base) :
    Half g base N tg w 0 0 (((w.setCell ⟨g, 0, none⟩ (.slice none 0 0)).setCell ⟨g, 1, none⟩ (.slice none 0 0)).setCell ⟨g, 2, none⟩ (.int .i64 0)) := by
  refine ⟨.slice none 0 0, .slice none 0 0, .int .i64 0, fun _ => 0, fun _ => 0, ?_, ?_, ?_, ?_, ?_, Grid.nil _ _ _ _ _ _ _, ?_, ?_, ?_, hgb⟩
  · simp [go_sem, h0]
  · simp [go_sem, h1]
  · simp [go_sem, h2]
  · simp [go_sem, h3]
  · intro o; simp only [World.frozen?_setCell, f]
  · split
    · exact Grid.nil _ _ _ _ _ _ _
    · rfl
  · exact below_set (below_set (below_set (Below.refl g w) 0 _) 1 _) 2 _
  · simp only [World.size_setCell]; exact hb

theorem half_end {g base N : Nat} {tg : Bool} {w wr : World} {kb kt : Nat} (h : Half g base N tg w kb kt wr) (x : Value) :
    Half g base N tg w kb kt (wr.setCell ⟨g, 2, none⟩ x) ∧ (wr.setCell ⟨g, 2, none⟩ x).cell? ⟨g, 2, none⟩ = some x := by
  obtain ⟨bv, tv, c2, bs, ts, e0, e1, e2, e3, fz, gb, gt, hbel, hsz, hgb⟩ := h
  refine ⟨⟨bv, tv, x, bs, ts, ?_, ?_, ?_, ?_, ?_, gb.setBelow hgb _, ?_, hbel.setCell (Nat.le_refl _) _, ?_, hgb⟩, ?_⟩
  · simp [go_sem, e0]
  · simp [go_sem, e1]
  · simp [go_sem, e2]
  · simp [go_sem, e3]
  · intro o; simp only [World.frozen?_setCell, fz]
  · split
    · rename_i h; rw [if_pos h] at gt; exact gt.setBelow hgb _
    · rename_i h; rwa [if_neg h] at gt
  · simp only [World.size_setCell]; exact hsz
  · simp [go_sem, e2]

set_option maxRecDepth 100000 in
set_option maxHeartbeats 4000000 in
/-- grow: the table laid anew, all slots free. -/
theorem grow_any (g : Nat) (n : Int) (tg : Bool) (c0 c1 : Value) (w : World) (h0 : w.cell? ⟨g, 0, none⟩ = some c0) (h1 : w.cell? ⟨g, 1, none⟩ = some c1) (h2 : w.cell? ⟨g, 2, none⟩ = some (.int .i64 n)) (h3 : w.cell? ⟨g, 3, none⟩ = some (.bool tg))
   (f : ∀ o, w.frozen? ⟨g, o, none⟩ = false) (hn : -1048576 ≤ n) (hn' : n ≤ 262144) (base : Nat) (hb : base ≤ w.heap.size) (hgb : g < base) :
    Calls Yba.prog 5 #[.pointer (some ⟨g, 0, none⟩)] w fun e w' => e = .returned (.tuple #[]) ∧ ∃ N : Nat, ((16 < (n * 3).tdiv 2 ∧ (n * 3).tdiv 2 = (N : Int)) ∨ ((n * 3).tdiv 2 ≤ 16 ∧ N = 16)) ∧ N ≤ 393216 ∧ Half g base N tg w ((N + 16383) / 16384) ((N + 16383) / 16384) w' ∧ w'.cell? ⟨g, 2, none⟩ = some (.int .i64 (N : Int)) := by
  obtain ⟨i23, hi23, hz23, hs23, hb23⟩ := info_parts info23
  obtain ⟨i25, hi25, hz25, hs25, hb25⟩ := info_parts info25
  go_enter Yba.func5, Yba.ntmps5
  go_wp2_with (first | (go_at_call 10; refine (free_any g _ _ _ _ h0 h1 h2 f).mono ?_; rintro e w' ⟨rfl, rfl⟩))
  case' inr => obtain ⟨N, hM, HN⟩ : ∃ N : Nat, (16 : Int) = (N : Int) ∧ Hid ((16 < (n * 3).tdiv 2 ∧ (n * 3).tdiv 2 = (N : Int)) ∨ ((n * 3).tdiv 2 ≤ 16 ∧ N = 16)) := ⟨16, rfl, .inr ⟨h, rfl⟩⟩
  case' inl => obtain ⟨N, hM, HN⟩ : ∃ N : Nat, (n * 3).tdiv 2 = (N : Int) ∧ Hid ((16 < (n * 3).tdiv 2 ∧ (n * 3).tdiv 2 = (N : Int)) ∨ ((n * 3).tdiv 2 ≤ 16 ∧ N = 16)) := ⟨((n * 3).tdiv 2).toNat, by omega, .inl ⟨by omega, by omega⟩⟩
  case' inl => have hM2 : (n * 3).tdiv 2 ≤ 393216 := tdiv_le n hn'
  all_goals
    rw [hM]
    have hN : 16 ≤ N ∧ N ≤ 393216 := by omega
    clear hM h
    go_loopw [3] (fun v3 wr => ∃ k : Nat, v3 = .int .i64 ((N : Int) - 16384 * (k : Int)) ∧ 16384 * k < N + 16384 ∧ Half g base N tg w k k wr) (fun v3 _ => (intOf v3).toNat)
    case atStart =>
      exact ⟨0, by simp, by omega, half_start h0 h1 h2 h3 f hb hgb⟩
    case round =>
      obtain ⟨k, rfl, hk, hH⟩ := hrel
      by_cases hlt : 16384 * k < N
      · obtain ⟨L, hL, hmk, hmt, hLe⟩ : ∃ L : Int, (if (N : Int) ≤ 16384 * (k : Int) + 16384 then (N : Int) - 16384 * (k : Int) else 16384) = L ∧
            (∀ w, (Instr.makeSlice 23 (.int .i64 L) (.int .i64 L)).run Yba.prog w = .ok (.slice (some ⟨w.heap.size, 0, none⟩) (sz N k) (sz N k)) (w.alloc (.cells (madeCells #[.int .i32 0] (sz N k)) 21))) ∧
            (∀ w, (Instr.makeSlice 25 (.int .i64 L) (.int .i64 L)).run Yba.prog w = .ok (.slice (some ⟨w.heap.size, 0, none⟩) (sz N k) (sz N k)) (w.alloc (.cells (madeCells #[.int .u8 0] (sz N k)) 5))) ∧ True := by
          refine ⟨(sz N k : Int), by unfold sz; split <;> omega, ?_, ?_, trivial⟩
          · exact fun w => run_make_row' (P := Yba.prog) 23 21 (.int .i32 0) 4 Yba.underlying23 info21 rfl .i64 .i64 (sz N k) (by unfold sz; omega) (by unfold sz; omega) w
          · exact fun w => run_make_row' (P := Yba.prog) 25 5 (.int .u8 0) 1 Yba.underlying25 info5 rfl .i64 .i64 (sz N k) (by unfold sz; omega) (by unfold sz; omega) w
        by_cases hle : (N : Int) ≤ 16384 * (k : Int) + 16384
        case' pos => rw [if_pos hle] at hL
        case' neg => rw [if_neg hle] at hL
        all_goals
          rw [← hL] at hmk hmt
          clear hL hLe
          obtain ⟨bv, tv, c2, bs, ts, e0, e1, e2, e3, fz, gb, gt, hbel, hsz, _⟩ := hH
          have hlg : g < wr.heap.size := World.block_lt_of_cell? wr _ e0
          go_wp2_with fail
          go_region_law ((refine step_append_lies _ (by rfl) _ _ _ (by rfl) base 23 i23 _ 1 24 Yba.underlying24 hi23 hz23 hs23 hb23 rfl (by omega) bv k ((List.range k).map (ent N bs)) (by rfl) (((gb.own.alloc _).alloc _).drew) ⟨wr.heap.size + 1, 0, none⟩ 1 1 [.slice (some ⟨wr.heap.size, 0, none⟩) (sz N k) (sz N k)] (by rfl) (by rfl) (two_new wr _ #[.slice (some ⟨wr.heap.size, 0, none⟩) (sz N k) (sz N k)] 23) (by simp [Value.oneCell']) (by omega) (by unfold maxLen; omega) (by omega) (by simp; omega) (wr.heap.size + 2) (by simp) ?_; intro gg cap w1 hown1 hgrow hat hgl; obtain ⟨hcf, hff⟩ := own_far hgrow hlg (own_ne gb.own hgb)))
          all_goals
            have HH := half1 (w := w) e1 e2 e3 e0 fz gb gt hbel hsz hgb hgrow hown1
            generalize w1.setCell ⟨g, 0, none⟩ (.slice (some ⟨gg, 0, none⟩) (k + 1) cap) = W2 at HH ⊢
            clear hown1 hgrow hat hgl hcf hff gb gt hbel e0 e1 e2 e3 fz hsz hlg hmk
            have HX : Hid (Half g base N tg w (k + 1) k W2) := HH
            obtain ⟨bv, tv, c2, bs, ts, e0, e1, e2, e3, fz, gb, gt, hbel, hsz, _⟩ := HH
            cases tg
            · clear gb gt
              go_wp2_with fail
              go_roundw
              case rel => exact ⟨k + 1, by go_num, by omega, HX.out.plain⟩
              case measure => simp [intOf]; omega
            · have hlg : g < W2.heap.size := World.block_lt_of_cell? W2 _ e0
              rw [if_pos rfl] at gt
              go_wp2_with fail
              go_region_law ((refine step_append_lies _ (by rfl) _ _ _ (by rfl) base 25 i25 _ 1 24 Yba.underlying26 hi25 hz25 hs25 hb25 rfl (by omega) tv k ((List.range k).map (ent N ts)) (by rfl) (((gt.own.alloc _).alloc _).drew) ⟨W2.heap.size + 1, 0, none⟩ 1 1 [.slice (some ⟨W2.heap.size, 0, none⟩) (sz N k) (sz N k)] (by rfl) (by rfl) (two_new W2 _ #[.slice (some ⟨W2.heap.size, 0, none⟩) (sz N k) (sz N k)] 25) (by simp [Value.oneCell']) (by omega) (by unfold maxLen; omega) (by omega) (by simp; omega) (W2.heap.size + 2) (by simp) ?_; intro gg cap w1 hown1 hgrow hat hgl; obtain ⟨hcf, hff⟩ := own_far hgrow hlg (own_ne gt.own hgb)))
              all_goals
                have H2 : Hid _ := half2 (w := w) e1 e2 e3 e0 fz gb gt hbel hsz hgb hgrow hown1
                clear gb gt hown1 hgrow
                go_wp2_with fail
                go_roundw
                case rel => exact ⟨k + 1, by go_num, by omega, H2.out⟩
                case measure => simp [intOf]; omega
      · have hk2 : (N + 16383) / 16384 = k := by omega
        have HH : Hid (Half g base N tg w k k (wr.setCell ⟨g, 2, none⟩ (.int .i64 (N : Int))) ∧ _) := half_end hH (.int .i64 (N : Int))
        obtain ⟨bv, tv, c2, bs, ts, e0, e1, e2, e3, fz, _⟩ := hH
        go_wp2_with fail
        go_returns
        refine ⟨rfl, N, HN.out, hN.2, ?_, HH.out.2⟩
        rw [hk2]
        exact HH.out.1
end Go.Proofs.Ybulkaaww
