/-
  LawS1354ARoundTrip: the told and tied card out of the walk.
-/
import Derived.Test.YbulkabacFmtRw
import Derived.Test.YbulkabacFmtModelProof
import Derived.Deep.SlicePairs
namespace Go.Proofs.YbulkabacFmt
open Go.ChangeShapes Go.WideShapes Go.ChangeAt Go.RowKit Go.Kit
open Go.Extern.Stop Go.Stop Go.Extern

theorem str_bytes (s : ByteArray) : str (s.data.toList.map UInt8.toNat) = s := by
  unfold str
  rw [List.map_map]
  have e : (UInt8.ofNat ∘ UInt8.toNat) = id := by funext u; simp
  rw [e, List.map_id]

/-- A slice of names that came in. -/
def IsNames (w : World) (ao : Option Addr) (len : Nat) (L : List (Nat × List Nat)) : Prop :=
  ∃ b o, Nms w b o L ∧ L.length = len ∧ (0 < len → ao = some ⟨b, o, none⟩)

def kindOf : Value → Nat
  | .int _ z => z.toNat
  | _ => 0
def nameOf : Value → List Nat
  | .string s => s.data.toList.map UInt8.toNat
  | _ => []

theorem names_of {w : World} {x : Addr} {len : Nat} (V0 V1 : Nat → Value) (h : ∀ i, i < len → w.cell? (x.add (i * 2)) = some (V0 i) ∧ w.cell? (x.add (i * 2 + 1)) = some (V1 i) ∧ (∃ z, V0 i = .int .u8 z ∧ (Lit.int .u8 z).wf = true) ∧ ∃ s, V1 i = .string s) :
    ∃ L, IsNames w (some x) len L := by
  refine ⟨(List.range len).map fun i => (kindOf (V0 i), nameOf (V1 i)), x.block, x.off, ?_, by simp, ?_⟩
  · have hget : ∀ i, i < len → ((List.range len).map fun i => (kindOf (V0 i), nameOf (V1 i))).getD i (0, []) = (kindOf (V0 i), nameOf (V1 i)) := by
      intro i hi
      rw [List.getD_eq_getElem?_getD, List.getElem?_map, List.getElem?_range hi]
      rfl
    have hout : ∀ i, ¬ i < len → ((List.range len).map fun i => (kindOf (V0 i), nameOf (V1 i))).getD i (0, []) = (0, []) := by
      intro i hi
      rw [List.getD_eq_getElem?_getD, List.getElem?_eq_none (by simp; omega)]
      rfl
    have hspot : 0 < len → x.spot = none := by
      intro h0
      have := World.cell?_spot (h 0 h0).1
      simpa [Addr.add] using this
    have hadd : 0 < len → ∀ j, x.add j = ⟨x.block, x.off + j, none⟩ := by
      intro h0 j
      obtain ⟨xb, xo, xs⟩ := x
      have e := hspot h0
      simp only at e
      subst e
      exact add_plain ..
    refine ⟨fun i hi => ?_, fun i hi => ?_, fun i => ?_, fun i y hy => ?_⟩
    · have hi' : i < len := by simpa using hi
      obtain ⟨h1, _, ⟨z, hz, hw⟩, _⟩ := h i hi'
      have hbz := bounds_u8 hw
      rw [hget i hi', ← hadd (by omega), h1, hz]
      simp only [kindOf]
      rw [Int.toNat_of_nonneg hbz.1]
    · have hi' : i < len := by simpa using hi
      obtain ⟨_, h2, _, s, hs⟩ := h i hi'
      rw [hget i hi', Nat.add_assoc, ← hadd (by omega), h2, hs]
      simp only [nameOf]
      rw [str_bytes]
    · by_cases hi : i < len
      · obtain ⟨_, _, ⟨z, hz, hw⟩, _⟩ := h i hi
        have hbz := bounds_u8 hw
        rw [hget i hi, hz]
        simp only [kindOf]
        omega
      · rw [hout i hi]; simp
    · by_cases hi : i < len
      · obtain ⟨_, _, _, s, hs⟩ := h i hi
        rw [hget i hi, hs] at hy
        simp only [nameOf, List.mem_map] at hy
        obtain ⟨u, _, rfl⟩ := hy
        exact u.toNat_lt
      · rw [hout i hi] at hy; cases hy
  · intro h0
    have := World.cell?_spot (h 0 h0).1
    obtain ⟨xb, xo, xs⟩ := x
    obtain rfl : xs = none := by simpa [Addr.add] using this
    rfl

theorem round_walk (F : Interp) (a : Addr) (s : ByteArray) (ao : Option Addr) (len cap : Nat) (L : List (Nat × List Nat)) (x : Int) (hx : 0 ≤ x ∧ x < 256) (w : World) (hF : F.answers w.tape) (hg : w.cell? ⟨0, 0, none⟩ = some (.iface 61 (.pointer (some a)))) (ht : w.cell? a = some (.string s)) (hL : IsNames w ao len L) :
    Calls Ybaf.prog 4 #[.slice ao len cap, .int .u8 x] w fun e w' => e = .returned (.bool true) ∧ Below w.heap.size w w' := by
  obtain ⟨b, o, h1, h2, h3⟩ := hL
  by_cases hN : len ≤ 4096
  · exact law_round F x hx b o L a s ao cap len w hF hg ht h1 h2 h3 hN
  · exact law_round_long x ao len cap w (by omega)

theorem stopsR : Ybaf.pinned.checked.prog.stops = Rows.lawS1354ARoundTripRow.stops := by kernel_rfl
theorem door_metR (os : Os) (args : Array Value) : laidMetH Ybaf.prog Rows.lawS1354ARoundTripRow.laid ((World.doorLaid Ybaf.prog 400 os).forCall (fun _ _ => 0) ⟨#[], args, []⟩).memory :=
  laidMetH_of_parts3 (fuel := 8) (laidMet_of_run' 8 (by kernel_rfl) (by kernel_rfl)) (by kernel_rfl) (by kernel_rfl)

namespace RoundTrip
set_option maxRecDepth 100000 in
theorem lifted (os : Os) (started : os.Started) (H : Type) (enc : TypeId × Value → H) :
    ReturnsInTold none {} Ybaf.checked os 4 .any Input.okWide ((OpenSpec.ofChange Rows.lawS1354ARoundTripSpec).preRow enc Ybaf.prog Ybaf.f4 Rows.lawS1354ARoundTripRow.domain false Rows.lawS1354ARoundTripRow.laid)
      (fun F => ((OpenSpec.ofChange Rows.lawS1354ARoundTripSpec).at F).post enc Ybaf.prog Ybaf.f4 false true false false) (aloneAtReturn Ybaf.prog) nothingAlways := by
  refine returnsInTold_of_row (C := Ybaf.checked) (s := OpenSpec.ofChange Rows.lawS1354ARoundTripSpec) (by kernel_rfl) own started (by kernel_rfl) Ybaf.func4
    (OpenSpec.witness_stopped_atRef (enc := enc) (C := Ybaf.checked) false (World.doorLaid Ybaf.prog 400 os) #[.slice none 0 0, .int .u8 0] rfl (by kernel_rfl) (by kernel_rfl) (by kernel_rfl) (OpenSpec.preRow_of_B rfl 8 (by kernel_rfl) (by kernel_rfl) (door_metR os _))) ?_
  intro F W base args ds gs before _ hF hval0 hW _ _ _ hL _
  have hval : ∀ (j : Nat) t v, Ybaf.f4.params[j]? = some t → args[j]? = some v → Value.okWide Ybaf.prog W .any base t v := hval0
  have hW' := hW
  obtain ⟨p, q, hA0, hV, rfl, hfz, hnd⟩ := hW
  have hA : DataW.TrodAll enc Ybaf.prog W 0 (fun _ => true) true Ybaf.f4.params.toList args.toList ds p := hA0
  rw [Ybaf.params4] at hA hval
  obtain ⟨v0, v1, d0, d1, p0, p1, rfl, rfl, rfl, h0, h1⟩ := trodAll_two hA
  obtain ⟨a0, len0, cap0, rfl⟩ := okWide_slice Ybaf.underlying32 (hval 0 32 v0 rfl rfl)
  obtain ⟨x1, rfl, rfl, rfl, w1⟩ := open_int Ybaf.underlying5 (hval 1 5 v1 rfl rfl) h1
  have k0 := h0
  have lt0 : ∀ x ∈ p0, x.block < W.heap.size := by obtain ⟨m, hm⟩ := k0; exact DataW.trod_lt m _ _ _ hm
  obtain ⟨L0, w0⟩ : ∃ L, IsNames W a0 len0 L := by
    obtain ⟨fuel, hf⟩ := h0
    rcases Deep.open_slice_pairs Ybaf.underlying32 Ybaf.underlying34 (by kernel_rfl) rfl rfl (by kernel_rfl) (by kernel_rfl) hf with ⟨hcs, _⟩ | ⟨x, l, c, m, n, V0, V1, D0, D1, P0, P1, hcs, _, hl, hm, hmm, _, hcell⟩
    · simp [Value.cells] at hcs
      obtain ⟨rfl, rfl, rfl⟩ := hcs
      exact ⟨[], 0, 0, ⟨fun i hi => absurd hi (by simp), fun i hi => absurd hi (by simp), fun i => by simp, fun i y hy => by simp at hy⟩, rfl, fun h => absurd h (by omega)⟩
    · simp [Value.cells] at hcs
      obtain ⟨rfl, rfl, rfl⟩ := hcs
      have hmc : m = cap0 := by simpa using hmm
      refine names_of V0 V1 fun i hi => ?_
      obtain ⟨c0, c1, t0, t1⟩ := hcell i (by omega)
      obtain ⟨z, e0, _, wz⟩ := DataW.trod_int Ybaf.underlying5 t0
      obtain ⟨s, e1, _, _⟩ := DataW.trod_string Ybaf.underlying9 t1
      exact ⟨c0, c1, ⟨z, by simpa using e0, wz⟩, s, by simpa using e1⟩
  rw [MakeChecks.laidMetH_plain _ _ _ (by kernel_rfl)] at hL
  obtain ⟨e0, s0, hv0, hc0, _, _⟩ := laid_sentinel hL gE gET Ybaf.underlying26 row61 Ybaf.underlying61 Ybaf.underlying63 rfl rfl Ybaf.underlying9 (by kernel_rfl) (by kernel_rfl)
  obtain ⟨rfl, rfl⟩ := hV.unique (vars_read1 enc gE gET Ybaf.underlying26 hv0 trivial _)
  have hg0 : W.cell? ⟨0, 0, none⟩ = some (.iface 61 (.pointer (some e0))) := by simpa using World.var?_cell gE hv0 0
  clear hA0 hval0
  have hbx := bounds_u8 w1
  refine (round_walk F.told e0 s0 a0 len0 cap0 L0 x1 (by omega) W hF hg0 hc0 w0).mono fun e W' ⟨he, bel⟩ => ?_
  subst he
  have hv1 := var?_below bel gE (World.block_lt_of_cell? W _ hg0) hv0
  exact ⟨_, rfl, _, _, _, [], _, _, hW', trodAll_mk1 (shut_bool Ybaf.underlying4 _), trodAll_mk2 (Below.trod laidOut (by kernel_rfl) (of_decide_eq_true (by kernel_rfl)) k0 bel lt0) (shut_int Ybaf.underlying5 w1), vars_read1 enc gE gET Ybaf.underlying26 hv1 trivial _, bel.frame _, fun h => by cases h⟩

/-- The card. -/
theorem proved : Rows.LawS1354ARoundTripToldSaid :=
  Claim7.holds_of_told_tied_any_at .later 4 Ybaf.f4 _ _ [] _ _ _ _ _ (by kernel_rfl) rfl rfl rfl laidOutC (by kernel_rfl) rfl ⟨rfl, rfl, rfl, rfl, rfl, rfl, rfl⟩ rfl rfl (by kernel_rfl) (by kernel_rfl) Ybaf.func4 (by kernel_rfl)
    (of_decide_eq_true (by kernel_rfl)) (of_decide_eq_true (by kernel_rfl)) stopsR.symm rfl stopKnobs.symm (by kernel_rfl)
    (by kernel_rfl) (by kernel_rfl) (by kernel_rfl) (by kernel_rfl) (by kernel_rfl) (by kernel_rfl) (by kernel_rfl) (by kernel_rfl) (by kernel_rfl) rfl (by kernel_rfl) rfl rfl
    rfl rfl
    rfl (by kernel_rfl) (by kernel_rfl) (by kernel_rfl) (by decide) (by kernel_rfl) lawS1354ARoundTrip_row_tie
    (OpenClaim.moreEntering_of (by kernel_rfl) (by kernel_rfl) (by kernel_rfl) (by kernel_rfl) (by kernel_rfl) (by kernel_rfl) (by kernel_rfl) (by kernel_rfl) (by kernel_rfl) (by kernel_rfl))
    ⟨_, WideRow.started_initial, quiet _⟩
    (fun os started _ H enc _ => lifted os started H enc)
#print axioms proved
end RoundTrip
end Go.Proofs.YbulkabacFmt
