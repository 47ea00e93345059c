/-
  LawS1354AModel: the told and tied card out of the walk.
-/
import Derived.Test.YbulkabacFmtMc
import Derived.Test.YbulkabacFmtTie
import Derived.Test.YbulkabacFmtCards
import Derived.ProofKit
import Derived.OpenShut
import Derived.LaidMore
import Derived.Stop.JoinedAt
import Derived.Stop.JoinedTold
import Derived.Stop.LaidErr
import Derived.Deep.DeepWitnessRef
import Derived.SevenTiedAt
namespace Go.Proofs.YbulkabacFmt
open Go.ChangeShapes Go.WideShapes Go.ChangeAt Go.RowKit Go.Kit
open Go.Extern.Stop Go.Stop Go.Extern

theorem own : ownKnob Ybaf.prog.godebug = none := by kernel_rfl
theorem row61 (u : TypeId) (h : Ybaf.prog.typeName? 3 u = some star61) : u = 61 :=
  typeName_ptr_named (nm := "errors.errorString") (by kernel_rfl) (by kernel_rfl) (by decide) u (h.trans (by kernel_rfl))
theorem gE : Ybaf.prog.globalNamed (Rows.lawS1354AModelSpec.vars.getD 0 (toString 0)) = some 0 := by kernel_rfl
theorem gET : (Ybaf.prog.globals[0]?).map (·.type) = some 26 := by kernel_rfl
theorem laidOut : laidOutB Ybaf.prog = true := by kernel_rfl
theorem laidOutC : laidOutB Ybaf.pinned.checked.prog = true := by kernel_rfl
theorem stops : Ybaf.pinned.checked.prog.stops = Rows.lawS1354AModelRow.stops := by kernel_rfl
theorem stopKnobs : Ybaf.pinned.checked.prog.stopKnobs = [] := by kernel_rfl
theorem quiet (os : Os) : Stop.quiet Ybaf.pinned.checked.prog os := by
  intro k hk
  rw [stopKnobs] at hk
  cases hk

/-- The door's own heap meets the condition. -/
theorem door_met (os : Os) (args : Array Value) : laidMetH Ybaf.prog Rows.lawS1354AModelRow.laid ((World.doorLaid Ybaf.prog 400 os).forCall (fun _ _ => 0) ⟨#[], args, []⟩).memory :=
  laidMetH_of_parts3 (fuel := 8) (laidMet_of_run' 8 (by kernel_rfl) (by kernel_rfl)) (by kernel_rfl) (by kernel_rfl)

/-- A slice of integers that came in: nil, or a row of cap cells. -/
def IsRow (k : IntKind) (w : World) (a : Option Addr) (len cap : Nat) (zs : List Int) : Prop :=
  (a = none ∧ len = 0 ∧ cap = 0 ∧ zs = []) ∨
  ∃ x, a = some x ∧ len ≤ cap ∧ cap ≤ maxLen ∧ zs.length = cap ∧ (∀ i, i < zs.length → w.cell? (x.add i) = some (.int k (zs.getD i 0))) ∧ ∀ n ∈ zs, (Lit.int k n).wf = true

theorem model_walk (F : Interp) (a : Addr) (s : ByteArray) (ao : Option Addr) (len cap : Nat) (z : List Int) (w : World) (hF : F.answers w.tape) (hg : w.cell? ⟨0, 0, none⟩ = some (.iface 61 (.pointer (some a)))) (ht : w.cell? a = some (.string s)) (hz : IsRow .u8 w ao len cap z) :
    Calls Ybaf.prog 3 #[.slice ao len cap] w fun e w' => e = .returned (.bool true) ∧ Below w.heap.size w w' := by
  rcases hz with ⟨rfl, rfl, rfl, _⟩ | ⟨x, rfl, hl, hm, hz, hcell, hwf⟩
  · exact law_model F 0 0 [] a s none 0 w hF ⟨hg, ht, fun i hi => absurd hi (by simp), fun i => by simp⟩ (Nat.le_refl _) (fun h => absurd h (by omega))
  · have hb : ∀ i, 0 ≤ z.getD i 0 ∧ z.getD i 0 < 256 := by
      intro i
      by_cases hi : i < z.length
      · have hw := hwf (z.getD i 0) (by rw [List.getD_eq_getElem?_getD, List.getElem?_eq_getElem hi]; exact List.getElem_mem hi)
        have := bounds_u8 hw
        omega
      · rw [List.getD_eq_getElem?_getD, List.getElem?_eq_none (by omega)]
        simp
    have hlen : ((z.take len).map Int.toNat).length = len := by simp; omega
    have hget : ∀ i, i < len → ((z.take len).map Int.toNat).getD i 0 = (z.getD i 0).toNat := by
      intro i hi
      rw [List.getD_eq_getElem?_getD, List.getElem?_map, List.getElem?_take, if_pos hi, List.getD_eq_getElem?_getD]
      cases z[i]? <;> simp
    have hsm : ∀ i, ((z.take len).map Int.toNat).getD i 0 < 256 := by
      intro i
      by_cases hi : i < len
      · rw [hget i hi]
        have := hb i
        omega
      · rw [List.getD_eq_getElem?_getD, List.getElem?_eq_none (by rw [hlen]; omega)]
        simp
    by_cases h0 : 0 < cap
    · obtain ⟨b, off, rfl, hc⟩ := ints_at hcell (by omega)
      have := law_model F b off ((z.take len).map Int.toNat) a s (some ⟨b, off, none⟩) cap w hF ⟨hg, ht, fun i hi => ?_, hsm⟩ (by rw [hlen]; exact hl) (fun _ => rfl)
      · rw [hlen] at this
        exact this
      · rw [hlen] at hi
        rw [hc i (by omega), hget i hi, Int.toNat_of_nonneg (hb i).1]
    · obtain rfl : cap = 0 := by omega
      obtain rfl : len = 0 := by omega
      exact law_model F 0 0 [] a s (some x) 0 w hF ⟨hg, ht, fun i hi => absurd hi (by simp), fun i => by simp⟩ (Nat.le_refl _) (fun h => absurd h (by omega))

namespace Model
set_option maxRecDepth 100000 in
theorem lifted (os : Os) (started : os.Started) (H : Type) (enc : TypeId × Value → H) :
    ReturnsInTold none {} Ybaf.checked os 3 .any Input.okWide ((OpenSpec.ofChange Rows.lawS1354AModelSpec).preRow enc Ybaf.prog Ybaf.f3 Rows.lawS1354AModelRow.domain false Rows.lawS1354AModelRow.laid)
      (fun F => ((OpenSpec.ofChange Rows.lawS1354AModelSpec).at F).post enc Ybaf.prog Ybaf.f3 false true false false) (aloneAtReturn Ybaf.prog) nothingAlways := by
  refine returnsInTold_of_row (C := Ybaf.checked) (s := OpenSpec.ofChange Rows.lawS1354AModelSpec) (by kernel_rfl) own started (by kernel_rfl) Ybaf.func3
    (OpenSpec.witness_stopped_atRef (enc := enc) (C := Ybaf.checked) false (World.doorLaid Ybaf.prog 400 os) #[.slice none 0 0] rfl (by kernel_rfl) (by kernel_rfl) (by kernel_rfl) (OpenSpec.preRow_of_B rfl 8 (by kernel_rfl) (by kernel_rfl) (door_met os _))) ?_
  intro F W base args ds gs before _ hF hval0 hW _ _ _ hL _
  have hval : ∀ (j : Nat) t v, Ybaf.f3.params[j]? = some t → args[j]? = some v → Value.okWide Ybaf.prog W .any base t v := hval0
  have hW' := hW
  obtain ⟨p, q, hA0, hV, rfl, hfz, hnd⟩ := hW
  have hA : DataW.TrodAll enc Ybaf.prog W 0 (fun _ => true) true Ybaf.f3.params.toList args.toList ds p := hA0
  rw [Ybaf.params3] at hA hval
  obtain ⟨v0, d0, rfl, rfl, h0⟩ := trodAll_one hA
  obtain ⟨a0, len0, cap0, rfl⟩ := okWide_slice Ybaf.underlying22 (hval 0 22 v0 rfl rfl)
  have k0 := h0
  have lt0 : ∀ x ∈ p, x.block < W.heap.size := by obtain ⟨m, hm⟩ := k0; exact DataW.trod_lt m _ _ _ hm
  obtain ⟨z0, w0⟩ : ∃ zs, IsRow .u8 W a0 len0 cap0 zs := by
    obtain ⟨fuel, hf⟩ := h0
    rcases open_ints Ybaf.underlying22 Ybaf.underlying5 (by kernel_rfl) hf with ⟨hcs, _⟩ | ⟨x, l, c, zs, hcs, _, hl, hm, hz, _, hcell, hwz⟩
    · simp [Value.cells] at hcs
      obtain ⟨rfl, rfl, rfl⟩ := hcs
      exact ⟨[], .inl ⟨rfl, rfl, rfl, rfl⟩⟩
    · simp [Value.cells] at hcs
      obtain ⟨rfl, rfl, rfl⟩ := hcs
      exact ⟨zs, .inr ⟨_, rfl, hl, hm, by simpa using hz, hcell, hwz⟩⟩
  rw [MakeChecks.laidMetH_plain _ _ _ (by kernel_rfl)] at hL
  obtain ⟨e0, s0, hv0, hc0, _, _⟩ := laid_sentinel hL gE gET Ybaf.underlying26 row61 Ybaf.underlying61 Ybaf.underlying63 rfl rfl Ybaf.underlying9 (by kernel_rfl) (by kernel_rfl)
  obtain ⟨rfl, rfl⟩ := hV.unique (vars_read1 enc gE gET Ybaf.underlying26 hv0 trivial _)
  have hg0 : W.cell? ⟨0, 0, none⟩ = some (.iface 61 (.pointer (some e0))) := by simpa using World.var?_cell gE hv0 0
  clear hA0 hval0
  refine (model_walk F.told e0 s0 a0 len0 cap0 z0 W hF hg0 hc0 w0).mono fun e W' ⟨he, bel⟩ => ?_
  subst he
  have hv1 := var?_below bel gE (World.block_lt_of_cell? W _ hg0) hv0
  exact ⟨_, rfl, _, _, _, [], _, _, hW', trodAll_mk1 (shut_bool Ybaf.underlying4 _), trodAll_mk1 (Below.trod laidOut (by kernel_rfl) (of_decide_eq_true (by kernel_rfl)) k0 bel lt0), vars_read1 enc gE gET Ybaf.underlying26 hv1 trivial _, bel.frame _, fun h => by cases h⟩

/-- The card. -/
theorem proved : Rows.LawS1354AModelToldSaid :=
  Claim7.holds_of_told_tied_any_at .later 3 Ybaf.f3 _ _ [] _ _ _ _ _ (by kernel_rfl) rfl rfl rfl laidOutC (by kernel_rfl) rfl ⟨rfl, rfl, rfl, rfl, rfl, rfl, rfl⟩ rfl rfl (by kernel_rfl) (by kernel_rfl) Ybaf.func3 (by kernel_rfl)
    (of_decide_eq_true (by kernel_rfl)) (of_decide_eq_true (by kernel_rfl)) stops.symm rfl stopKnobs.symm (by kernel_rfl)
    (by kernel_rfl) (by kernel_rfl) (by kernel_rfl) (by kernel_rfl) (by kernel_rfl) (by kernel_rfl) (by kernel_rfl) (by kernel_rfl) (by kernel_rfl) rfl (by kernel_rfl) rfl rfl
    rfl rfl
    rfl (by kernel_rfl) (by kernel_rfl) (by kernel_rfl) (by decide) (by kernel_rfl) lawS1354AModel_row_tie
    (OpenClaim.moreEntering_of (by kernel_rfl) (by kernel_rfl) (by kernel_rfl) (by kernel_rfl) (by kernel_rfl) (by kernel_rfl) (by kernel_rfl) (by kernel_rfl) (by kernel_rfl) (by kernel_rfl))
    ⟨_, WideRow.started_initial, quiet _⟩
    (fun os started _ H enc _ => lifted os started H enc)
#print axioms proved
end Model
end Go.Proofs.YbulkabacFmt
