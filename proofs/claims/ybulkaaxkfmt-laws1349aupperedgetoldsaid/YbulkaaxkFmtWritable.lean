/-
  LawS1349AWritable: the told and tied card out of the walk.
-/
import Derived.Test.YbulkaaxkFmtLaws
import Derived.Test.YbulkaaxkFmtTie
import Derived.Test.YbulkaaxkFmtCards
import Derived.ProofKit
import Derived.OpenShut
import Derived.LaidMore
import Derived.Stop.JoinedAt
import Derived.Stop.JoinedTold
import Derived.Stop.LaidErr
import Derived.Deep.DeepWitnessRef
import Derived.Deep.Strs
import Derived.SevenTiedAt
namespace Go.Proofs.YbulkaaxkFmt
open Go.ChangeShapes Go.WideShapes Go.ChangeAt Go.RowKit Go.Kit
open Go.Extern.Stop Go.Stop Go.Extern

theorem own : ownKnob Ybaf.prog.godebug = none := by kernel_rfl
theorem cells23 : Ybaf.prog.cellsOf 23 = 3 := by kernel_rfl
theorem cells3 : Ybaf.prog.cellsOf 3 = 1 := by kernel_rfl

/-- Three ints read as a known struct: the cells are known. -/
theorem ints_known {H : Type} {enc : TypeId × Value → H} {w : World} {base : Nat} {spare : Nat → Bool} {held : Bool} {fuel : Nat} {cs : List Value} {a b c : Int} {p : List MemPlace}
    (h : DataW.trod enc Ybaf.prog w base spare held fuel 23 cs = some (.agg [.lit (.int .i64 a), .lit (.int .i64 b), .lit (.int .i64 c)], p)) :
    cs = [.int .i64 a, .int .i64 b, .int .i64 c] := by
  obtain ⟨y0, y1, y2, n, hx, hlen, h0, h1, h2⟩ := Deep.trod_struct3 Ybaf.underlying23 h
  rw [cells23] at hlen
  simp only [cells3] at h0 h1 h2
  match cs, hlen with
  | [c0, c1, c2], _ =>
    obtain ⟨k0, e0, f0, _⟩ := DataW.trod_int Ybaf.underlying3 h0
    obtain ⟨k1, e1, f1, _⟩ := DataW.trod_int Ybaf.underlying3 h1
    obtain ⟨k2, e2, f2, _⟩ := DataW.trod_int Ybaf.underlying3 h2
    subst f0 f1 f2
    simp at e0 e1 e2 hx
    obtain ⟨⟨rfl, rfl, rfl⟩, _⟩ := hx
    rw [e0, e1, e2]

/-- What the two listed variables hold. -/
def VF (w : World) : Prop := w.var? Ybaf.prog (Rows.lawS1349AWritableSpec.vars.getD 0 (toString 0)) = some #[.int .i64 1, .int .i64 1, .int .i64 1]
def VL (w : World) : Prop := w.var? Ybaf.prog (Rows.lawS1349AWritableSpec.vars.getD 1 (toString 0)) = some #[.int .i64 9999, .int .i64 12, .int .i64 31]

theorem arr_of {cs : Array Value} {l : List Value} (h : cs.toList = l) : cs = l.toArray := by rw [← h]

theorem of_laid {W : World} (h : laidMetH Ybaf.prog Rows.lawS1349AWritableRow.laid W) : VF W ∧ VL W ∧ Laid W := by
  rw [MakeChecks.laidMetH_plain _ _ _ (by kernel_rfl)] at h
  obtain ⟨ps, ⟨g0, t0, cs0, f0, p0, q0, hg0, ht0, hv0, hd0, ⟨g1, t1, cs1, f1, p1, q1, hg1, ht1, hv1, hd1, _, _⟩, _⟩, _, _⟩ := h
  obtain rfl : g0 = 0 := Option.some.inj (hg0.symm.trans (by kernel_rfl))
  obtain rfl : g1 = 1 := Option.some.inj (hg1.symm.trans (by kernel_rfl))
  obtain rfl : t0 = 23 := Option.some.inj (ht0.symm.trans (by kernel_rfl))
  obtain rfl : t1 = 23 := Option.some.inj (ht1.symm.trans (by kernel_rfl))
  have k0 := ints_known hd0
  have k1 := ints_known hd1
  rw [arr_of k0] at hv0
  rw [arr_of k1] at hv1
  refine ⟨hv0, hv1, ⟨?_, ?_, ?_⟩, ?_, ?_, ?_⟩
  · simpa using World.var?_cell hg0 hv0 0
  · simpa using World.var?_cell hg0 hv0 1
  · simpa using World.var?_cell hg0 hv0 2
  · simpa using World.var?_cell hg1 hv1 0
  · simpa using World.var?_cell hg1 hv1 1
  · simpa using World.var?_cell hg1 hv1 2

abbrev dF {H : Type} : DataW H := .agg [.lit (.int .i64 1), .lit (.int .i64 1), .lit (.int .i64 1)]
abbrev dL {H : Type} : DataW H := .agg [.lit (.int .i64 9999), .lit (.int .i64 12), .lit (.int .i64 31)]

theorem date_read {H : Type} (enc : TypeId × Value → H) (W : World) (spare : Nat → Bool) (a b c : Int) (wa : (Lit.int .i64 a).wf = true) (wb : (Lit.int .i64 b).wf = true) (wc : (Lit.int .i64 c).wf = true) :
    DataW.trod enc Ybaf.prog W 0 spare true 2 23 [.int .i64 a, .int .i64 b, .int .i64 c] = some (.agg [.lit (.int .i64 a), .lit (.int .i64 b), .lit (.int .i64 c)], []) := by
  simp [DataW.trod, Ybaf.underlying23, Ybaf.underlying3, cells23, cells3, wa, wb, wc]

theorem vars_read {H : Type} (enc : TypeId × Value → H) (W : World) (spare : Nat → Bool) (hF : VF W) (hL : VL W) :
    DataW.TrodVars enc Ybaf.prog W spare Rows.lawS1349AWritableSpec.vars [dF, dL] (MemPlace.row ⟨0, 0, none⟩ 3 ++ [] ++ (MemPlace.row ⟨1, 0, none⟩ 3 ++ [] ++ [])) :=
  ⟨0, 23, _, 2, [], _, by kernel_rfl, by kernel_rfl, hF, date_read enc W spare _ _ _ (by decide) (by decide) (by decide), ⟨1, 23, _, 2, [], [], by kernel_rfl, by kernel_rfl, hL, date_read enc W spare _ _ _ (by decide) (by decide) (by decide), rfl, rfl⟩, rfl⟩

/-- The door's own heap meets the condition. -/
theorem door_met (os : Os) (args : Array Value) : laidMetH Ybaf.prog Rows.lawS1349AWritableRow.laid ((World.doorLaid Ybaf.prog 400 os).forCall (fun _ _ => 0) ⟨#[], args, []⟩).memory :=
  laidMetH_of_parts3 (fuel := 8) (laidMet_of_run' 8 (by kernel_rfl) (by kernel_rfl)) (by kernel_rfl) (by kernel_rfl)

theorem var_kept {W W' : World} (hb : Below W.heap.size W W') (hL : Laid W) (hF : VF W) (hV : VL W) : VF W' ∧ VL W' :=
  ⟨var?_below hb (by kernel_rfl) (World.block_lt_of_cell? W _ hL.1.1) hF, var?_below hb (by kernel_rfl) (World.block_lt_of_cell? W _ hL.2.1) hV⟩

theorem laidOut : laidOutB Ybaf.pinned.checked.prog = true := by kernel_rfl
theorem stops : Ybaf.pinned.checked.prog.stops = Rows.lawS1349AWritableRow.stops := by kernel_rfl
theorem stopKnobs : Ybaf.pinned.checked.prog.stopKnobs = [] := by kernel_rfl
theorem quiet (os : Os) : Stop.quiet Ybaf.pinned.checked.prog os := by
  intro k hk
  rw [stopKnobs] at hk
  cases hk

namespace Writable
set_option maxRecDepth 100000 in
theorem lifted (os : Os) (started : os.Started) (H : Type) (enc : TypeId × Value → H) :
    ReturnsInTold none {} Ybaf.checked os 3 .any Input.okWide ((OpenSpec.ofChange Rows.lawS1349AWritableSpec).preRow enc Ybaf.prog Ybaf.f3 Rows.lawS1349AWritableRow.domain false Rows.lawS1349AWritableRow.laid)
      (fun F => ((OpenSpec.ofChange Rows.lawS1349AWritableSpec).at F).post enc Ybaf.prog Ybaf.f3 false true false false) (aloneAtReturn Ybaf.prog) nothingAlways := by
  refine returnsInTold_of_row (C := Ybaf.checked) (s := OpenSpec.ofChange Rows.lawS1349AWritableSpec) (by kernel_rfl) own started (by kernel_rfl) Ybaf.func3
    (OpenSpec.witness_stopped_atRef (enc := enc) (C := Ybaf.checked) false (World.doorLaid Ybaf.prog 400 os) #[.int .i64 0, .int .i64 0, .int .i64 0] rfl (by kernel_rfl) (by kernel_rfl) (by kernel_rfl) (OpenSpec.preRow_of_B rfl 8 (by kernel_rfl) (by kernel_rfl) (door_met os _))) ?_
  intro F W base args ds gs before _ hF hval0 hW _ _ _ hL _
  have hval : ∀ (j : Nat) t v, Ybaf.f3.params[j]? = some t → args[j]? = some v → Value.okWide Ybaf.prog W .any base t v := hval0
  have hW' := hW
  obtain ⟨p, q, hA0, hV, rfl, hfz, hnd⟩ := hW
  have hA : DataW.TrodAll enc Ybaf.prog W 0 (fun _ => true) true Ybaf.f3.params.toList args.toList ds p := hA0
  rw [Ybaf.params3] at hA hval
  obtain ⟨v0, v1, v2, d0, d1, d2, p0, p1, p2, rfl, rfl, rfl, h0, h1, h2⟩ := trodAll_three hA
  obtain ⟨a0, rfl, rfl, rfl, w0⟩ := open_int Ybaf.underlying3 (hval 0 3 v0 rfl rfl) h0
  obtain ⟨a1, rfl, rfl, rfl, w1⟩ := open_int Ybaf.underlying3 (hval 1 3 v1 rfl rfl) h1
  obtain ⟨a2, rfl, rfl, rfl, w2⟩ := open_int Ybaf.underlying3 (hval 2 3 v2 rfl rfl) h2
  obtain ⟨hvF, hvL, hLd⟩ := of_laid hL
  obtain ⟨rfl, rfl⟩ := hV.unique (vars_read enc W _ hvF hvL)
  clear hA0 hval0
  refine (writable_any F.told a0 a1 a2 W hF hLd).mono fun e W' ⟨he, bel⟩ => ?_
  subst he
  obtain ⟨kF, kL⟩ := var_kept bel hLd hvF hvL
  exact ⟨_, rfl, _, _, _, [], [], _, hW', trodAll_mk1 (shut_bool Ybaf.underlying4 _), trodAll_mk3 (shut_int Ybaf.underlying3 w0) (shut_int Ybaf.underlying3 w1) (shut_int Ybaf.underlying3 w2), vars_read enc W' _ kF kL, bel.frame _, fun h => by cases h⟩

/-- The card. -/
theorem proved : Rows.LawS1349AWritableToldSaid :=
  Claim7.holds_of_told_tied_any_at .later 3 Ybaf.f3 _ _ [] _ _ _ _ _ (by kernel_rfl) rfl rfl rfl laidOut (by kernel_rfl) rfl ⟨rfl, rfl, rfl, rfl, rfl, rfl, rfl⟩ rfl rfl (by kernel_rfl) (by kernel_rfl) Ybaf.func3 (by kernel_rfl)
    (of_decide_eq_true (by kernel_rfl)) (of_decide_eq_true (by kernel_rfl)) stops.symm rfl stopKnobs.symm (by kernel_rfl)
    (by kernel_rfl) (by kernel_rfl) (by kernel_rfl) (by kernel_rfl) (by kernel_rfl) (by kernel_rfl) (by kernel_rfl) (by kernel_rfl) (by kernel_rfl) rfl (by kernel_rfl) rfl rfl
    rfl rfl
    rfl (by kernel_rfl) (by kernel_rfl) (by kernel_rfl) (by decide) (by kernel_rfl) lawS1349AWritable_row_tie
    (OpenClaim.moreEntering_of (by kernel_rfl) (by kernel_rfl) (by kernel_rfl) (by kernel_rfl) (by kernel_rfl) (by kernel_rfl) (by kernel_rfl) (by kernel_rfl) (by kernel_rfl) (by kernel_rfl))
    ⟨_, WideRow.started_initial, quiet _⟩
    (fun os started _ H enc _ => lifted os started H enc)
#print axioms proved
end Writable
end Go.Proofs.YbulkaaxkFmt
