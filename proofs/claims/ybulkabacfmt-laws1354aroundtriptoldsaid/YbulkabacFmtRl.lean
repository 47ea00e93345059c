/-
  What the round trip's walk wants of its names and of its buffer.
-/
import Derived.Test.YbulkabacFmtBuf
namespace Go.Proofs.YbulkabacFmt
open Go.RowKit Go.Extern.Stop Go.Stop Go.Extern

/-- The names that came in. -/
structure Nms (w : World) (b o : Nat) (L : List (Nat × List Nat)) : Prop where
  kind : ∀ i, i < L.length → w.cell? ⟨b, o + i * 2, none⟩ = some (.int .u8 (((L.getD i (0, [])).1 : Nat) : Int))
  name : ∀ i, i < L.length → w.cell? ⟨b, o + i * 2 + 1, none⟩ = some (.string (str (L.getD i (0, [])).2))
  smallK : ∀ i, (L.getD i (0, [])).1 < 256
  smallN : ∀ i x, x ∈ (L.getD i (0, [])).2 → x < 256

theorem Nms.later {w wr : World} {b o : Nat} {L : List (Nat × List Nat)} (h : Nms w b o L) (hb : Below w.heap.size w wr) : Nms wr b o L := by
  refine ⟨fun i hi => ?_, fun i hi => ?_, h.smallK, h.smallN⟩
  · rw [hb.cell (p := ⟨b, o + i * 2, none⟩) (World.block_lt_of_cell? w _ (h.kind i hi))]; exact h.kind i hi
  · rw [hb.cell (p := ⟨b, o + i * 2 + 1, none⟩) (World.block_lt_of_cell? w _ (h.name i hi))]; exact h.name i hi

theorem str_size (l : List Nat) : (str l).size = l.length := by
  show (str l).data.size = _
  simp [str]

/-- Bytes as cells. -/
def bs (l : List Nat) : List Value := l.map fun (n : Nat) => .int .u8 (n : Int)

/-- The buffer behind i names. -/
def Buf (wr w : World) (B T : Nat) (L : List (Nat × List Nat)) (i : Nat) (v : Value) : Prop :=
  Below w.heap.size w wr ∧ B ≤ wr.heap.size ∧ wr.ownsRow B 5 1 v (2 + (enc (L.take i)).length) (bs (T / 256 :: T % 256 :: enc (L.take i)))

theorem str_cells (l : List Nat) (h : ∀ x, x ∈ l → x < 256) : Lib.strCells (str l) = bs l := by
  unfold Lib.strCells bs str
  simp only [List.map_map]
  refine List.map_congr_left fun x hx => ?_
  have := h x hx
  simp only [Function.comp_apply, UInt8.toNat_ofNat']
  congr 1
  omega

theorem bs_append (l m : List Nat) : bs (l ++ m) = bs l ++ bs m := by simp [bs]

/-- One name more. -/
theorem buf_next {w w4 : World} {b o B T i n kd : Nat} {L : List (Nat × List Nat)} {v4 : Value} {nm : ByteArray} (hL : Nms w b o L) (hi : i < L.length) (hk : (L.getD i (0, [])).1 = kd) (hnm : str (L.getD i (0, [])).2 = nm) (hn : (L.getD i (0, [])).2.length = n)
    (hb : Below w.heap.size w w4) (hB : B ≤ w4.heap.size)
    (h4 : w4.ownsRow B 5 1 v4 (2 + (enc (L.take i)).length + 3 + nm.size) ((bs (T / 256 :: T % 256 :: enc (L.take i)) ++ [.int .u8 (kd : Int), .int .u8 ((n : Int) / 256), .int .u8 ((n : Int) % 256)]) ++ Lib.strCells nm)) : Buf w4 w B T L (i + 1) v4 := by
  refine ⟨hb, hB, ?_⟩
  have e1 : 2 + (enc (L.take (i + 1))).length = 2 + (enc (L.take i)).length + 3 + nm.size := by
    rw [enc_snoc L i hi, List.length_append, ent_length, ← hnm, str_size]; omega
  have e2 : bs (T / 256 :: T % 256 :: enc (L.take (i + 1))) = (bs (T / 256 :: T % 256 :: enc (L.take i)) ++ [.int .u8 (kd : Int), .int .u8 ((n : Int) / 256), .int .u8 ((n : Int) % 256)]) ++ Lib.strCells nm := by
    rw [← hnm, str_cells _ (hL.smallN i), enc_snoc L i hi, ← hk, ← hn]
    generalize L.getD i (0, []) = q
    obtain ⟨q1, q2⟩ := q
    simp [bs, ent]
  rw [e1, e2]
  exact h4

theorem three_new (w : World) (cs : Array Value) (t : TypeId) : ∀ j u, cs.toList[j]? = some u → (w.alloc (.cells cs t)).cell? ((⟨w.heap.size, 0, none⟩ : Addr).add j) = some u :=
  World.news_of_block (t := t) (fr := (0, 0)) (heap_alloc_new w _)

theorem mem_enc {L : List (Nat × List Nat)} {n : Nat × List Nat} (h : n ∈ L) : n.2.length + 3 ≤ (enc L).length := by
  induction L with
  | nil => cases h
  | cons m L ih =>
    simp only [enc, List.length_append, ent_length]
    rcases List.mem_cons.1 h with rfl | h
    · omega
    · have := ih h; omega

theorem enc_small (L : List (Nat × List Nat)) (h : ∀ n, n ∈ L → n.1 < 256 ∧ n.2.length < 65536 ∧ ∀ x, x ∈ n.2 → x < 256) : ∀ x, x ∈ enc L → x < 256 := by
  induction L with
  | nil => intro x hx; cases hx
  | cons m L ih =>
    intro x hx
    simp only [enc, List.mem_append] at hx
    rcases hx with hx | hx
    · obtain ⟨h1, h2, h3⟩ := h m (List.mem_cons_self ..)
      simp only [ent, List.mem_cons] at hx
      rcases hx with rfl | rfl | rfl | hx
      · exact h1
      · omega
      · omega
      · exact h3 x hx
    · exact ih (fun n hn => h n (List.mem_cons_of_mem _ hn)) x hx

theorem Nms.small {w : World} {b o : Nat} {L : List (Nat × List Nat)} (h : Nms w b o L) (hT : (enc L).length ≤ 60000) : ∀ x, x ∈ enc L → x < 256 := by
  refine enc_small L fun n hn => ?_
  obtain ⟨i, hi, rfl⟩ := List.getElem_of_mem hn
  have e : L.getD i (0, []) = L[i] := by rw [List.getD_eq_getElem?_getD, List.getElem?_eq_getElem hi]; rfl
  have h1 := h.smallK i
  have h2 := h.smallN i
  rw [e] at h1 h2
  have := mem_enc hn
  exact ⟨h1, by omega, h2⟩

/-- The buffer is an input to the parser. -/
theorem inp_of {w wr : World} {B g ZL cap : Nat} {zs : List Nat} {a : Addr} {s : ByteArray} (hown : wr.ownsRow B 5 1 (.slice (some ⟨g, 0, none⟩) ZL cap) ZL (bs zs)) (hsm : ∀ x, x ∈ zs → x < 256)
    (hg : w.cell? ⟨0, 0, none⟩ = some (.iface 61 (.pointer (some a)))) (ht : w.cell? a = some (.string s)) (hb : Below w.heap.size w wr) : zs.length = ZL ∧ ZL ≤ cap ∧ Inp wr g 0 zs a s := by
  have hlen : zs.length = ZL := by have := hown.1; simpa [bs] using this
  have hc := hown.cells (g := g) rfl
  refine ⟨hlen, ?_, ?_, ?_, fun i hi => ?_, fun i => ?_⟩
  · rcases hown.2 with ⟨h, _⟩ | ⟨g', cap', cur, h, _, _, h5, _⟩
    · cases h
    · cases h; exact h5
  · rw [hb.cell (p := ⟨0, 0, none⟩) (World.block_lt_of_cell? w _ hg)]; exact hg
  · rw [hb.cell (World.block_lt_of_cell? w _ ht)]; exact ht
  · have h1 := hc i (.int .u8 ((zs.getD i 0 : Nat) : Int)) (by simp [bs, hi, List.getD_eq_getElem?_getD])
    rw [WideShapes.add_plain] at h1
    exact h1
  · by_cases hi : i < zs.length
    · rw [List.getD_eq_getElem?_getD, List.getElem?_eq_getElem hi]; exact hsm _ (List.getElem_mem hi)
    · rw [List.getD_eq_getElem?_getD, List.getElem?_eq_none (by omega)]; simp

/-- The buffer is never nil. -/
theorem buf_open {wr : World} {B k : Nat} {v : Value} {zs : List Nat} (hk : 0 < k) (h : wr.ownsRow B 5 1 v k (bs zs)) : ∃ g cap, v = .slice (some ⟨g, 0, none⟩) k cap := by
  rcases h.2 with ⟨_, h⟩ | ⟨g, cap, cur, h, _⟩
  · omega
  · exact ⟨g, cap, h⟩
end Go.Proofs.YbulkabacFmt
