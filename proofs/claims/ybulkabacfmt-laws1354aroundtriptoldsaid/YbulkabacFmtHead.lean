/-
  parseServerName: what every way through it needs.
-/
import Derived.Test.YbulkabacFmtVec
import Derived.Deep.DeepCutAuto
import Derived.Laws.BytesString
import Derived.Laws.Rows
namespace Go.Proofs.YbulkabacFmt
open Go.RowKit Go.Extern.Stop Go.Stop Go.Extern

theorem fr0 (w : World) : (FmtDoors.printed ⟨#[37, 119, 58, 32, 116, 104, 101, 32, 115, 101, 114, 118, 101, 114, 32, 110, 97, 109, 101, 32, 108, 105, 115, 116, 39, 115, 32, 108, 101, 110, 103, 116, 104, 32, 100, 111, 101, 115, 32, 110, 111, 116, 32, 109, 97, 116, 99, 104, 32, 105, 116, 115, 32, 101, 120, 116, 101, 110, 115, 105, 111, 110, 39, 115]⟩ 1).run Ybaf.prog w = .ok [(0, 119, false)] w := by kernel_rfl
theorem fr1 (w : World) : (FmtDoors.printed ⟨#[37, 119, 58, 32, 97, 110, 32, 101, 109, 112, 116, 121, 32, 115, 101, 114, 118, 101, 114, 32, 110, 97, 109, 101, 32, 108, 105, 115, 116]⟩ 1).run Ybaf.prog w = .ok [(0, 119, false)] w := by kernel_rfl
theorem fr2 (w : World) : (FmtDoors.printed ⟨#[37, 119, 58, 32, 97, 32, 115, 101, 114, 118, 101, 114, 32, 110, 97, 109, 101, 32, 114, 117, 110, 115, 32, 112, 97, 115, 116, 32, 116, 104, 101, 32, 101, 110, 100, 32, 111, 102, 32, 105, 116, 115, 32, 108, 105, 115, 116]⟩ 1).run Ybaf.prog w = .ok [(0, 119, false)] w := by kernel_rfl
theorem fr3 (w : World) : (FmtDoors.printed ⟨#[37, 119, 58, 32, 97, 110, 32, 101, 109, 112, 116, 121, 32, 104, 111, 115, 116, 95, 110, 97, 109, 101]⟩ 1).run Ybaf.prog w = .ok [(0, 119, false)] w := by kernel_rfl
theorem fr4 (w : World) : (FmtDoors.printed ⟨#[37, 119, 58, 32, 97, 32, 115, 101, 99, 111, 110, 100, 32, 104, 111, 115, 116, 95, 110, 97, 109, 101]⟩ 1).run Ybaf.prog w = .ok [(0, 119, false)] w := by kernel_rfl

/-- fmt.Errorf behind the new slice of its one operand. -/
theorem errorf_at (F : Interp) (f : ByteArray) (a : Addr) (s : ByteArray) (w1 : World) (T : TypeId) (hF : F.answers w1.tape)
    (hpr : ∀ w : World, (FmtDoors.printed f 1).run Ybaf.prog w = .ok [(0, 119, false)] w) (hs : w1.cell? a = some (.string s)) :
    Calls Ybaf.prog 9 #[.string f, .slice (some ⟨w1.heap.size, 0, none⟩) 1 1] (w1.alloc (.cells #[.iface 61 (.pointer (some a))] T))
      fun e w' => ∃ p, e = .returned (.iface 49 (.pointer (some ⟨p, 0, none⟩))) ∧ w'.cell? ⟨p, 1, none⟩ = some (.iface 61 (.pointer (some a))) ∧ Below w1.heap.size w1 w' := by
  have la : a.block < w1.heap.size := World.block_lt_of_cell? w1 _ hs
  refine (errorf_any F f w1.heap.size a s _ (by exact hF) hpr (by simp [go_sem]) (by rw [World.cell?_of_block (Below.heap_alloc w1 _ a.block la)]; exact hs)).mono ?_
  rintro e w' ⟨p, rfl, hp, hb⟩
  exact ⟨p, rfl, hp, ((Below.refl _ _).alloc (Nat.le_refl _) _).trans (hb.mono (by simp))⟩

/-- What parseServerName answers. -/
def Res (w : World) (a : Addr) (R : Option (List Nat)) (e : Ending) (w' : World) : Prop :=
  Below w.heap.size w w' ∧ ((∃ h, R = some h ∧ e = .returned (.tuple #[.string (str h), .nilIface])) ∨
    (R = none ∧ ∃ p, e = .returned (.tuple #[.string ⟨#[]⟩, .iface 49 (.pointer (some ⟨p, 0, none⟩))]) ∧ w'.cell? ⟨p, 1, none⟩ = some (.iface 61 (.pointer (some a)))))

/-- The bytes that came in, and the sentinel. -/
structure Inp (w : World) (b o : Nat) (zs : List Nat) (a : Addr) (s : ByteArray) : Prop where
  glob : w.cell? ⟨0, 0, none⟩ = some (.iface 61 (.pointer (some a)))
  text : w.cell? a = some (.string s)
  byte : ∀ i, i < zs.length → w.cell? ⟨b, o + i, none⟩ = some (.int .u8 ((zs.getD i 0 : Nat) : Int))
  small : ∀ i, zs.getD i 0 < 256

theorem Inp.later {w wr : World} {b o : Nat} {zs : List Nat} {a : Addr} {s : ByteArray} (h : Inp w b o zs a s) (hb : Below w.heap.size w wr) : Inp wr b o zs a s := by
  refine ⟨?_, ?_, fun i hi => ?_, h.small⟩
  · rw [hb.cell (p := ⟨0, 0, none⟩) (World.block_lt_of_cell? w _ h.glob)]; exact h.glob
  · rw [hb.cell (World.block_lt_of_cell? w _ h.text)]; exact h.text
  · rw [hb.cell (p := ⟨b, o + i, none⟩) (World.block_lt_of_cell? w _ (h.byte i hi))]; exact h.byte i hi

theorem below_upd {B c v : Nat} {w w1 w2 : World} (h : Below B w w1) (hu : Upd c v w1 w2) (hB : B ≤ w1.heap.size) (hc : B ≤ c) (hv : B ≤ v) : Below B w w2 :=
  h.trans ⟨hu.os, hu.tape, hu.output, hu.size, fun k hk => hu.block k (by omega) (by omega) (by omega)⟩

theorem zero29 (w : World) : (zeroValue 29).run Ybaf.prog w = .ok (.slice none 0 0) w := by kernel_rfl


/-- A field that runs past the end. -/
theorem vector_bad (c v b off len cap b0 b1 : Nat) (x : Value) (w : World) (hc : Cur w c b off len cap) (h1 : w.cell? ⟨v, 0, none⟩ = some x) (g0 : b0 < 256) (g1 : b1 < 256)
    (r : 2 ≤ len → w.cell? ⟨b, off, none⟩ = some (.int .u8 (b0 : Int)) ∧ w.cell? ⟨b, off + 1, none⟩ = some (.int .u8 (b1 : Int))) (hbad : len < 2 ∨ (2 ≤ len ∧ len - 2 < b0 * 256 + b1)) :
    Calls Ybaf.prog 8 #[.pointer (some ⟨c, 0, none⟩), .int .i64 2, .pointer (some ⟨v, 0, none⟩)] w fun e w' => e = .returned (.bool false) ∧ Upd c v w w' := by
  rcases hbad with h | ⟨h, hl⟩
  · exact vector_short c v b off len cap w hc h
  · exact vector_long c v b off len cap b0 b1 x w hc h h1 (r h).1 (r h).2 g0 g1 hl

/-- A field that fits: n bytes, r behind it. -/
theorem vector_fit (c v b off len cap b0 b1 n r : Nat) (x : Value) (w : World) (hc : Cur w c b off len cap) (hr : n + r + 2 = len) (hn : b0 * 256 + b1 = n) (h1 : w.cell? ⟨v, 0, none⟩ = some x)
   (hf : w.frozen? ⟨v, 0, none⟩ = false) (hf2 : w.frozen? ⟨c, 0, none⟩ = false) (hcv : c ≠ v) (r0 : w.cell? ⟨b, off, none⟩ = some (.int .u8 (b0 : Int))) (r1 : w.cell? ⟨b, off + 1, none⟩ = some (.int .u8 (b1 : Int))) (g0 : b0 < 256) (g1 : b1 < 256) :
    Calls Ybaf.prog 8 #[.pointer (some ⟨c, 0, none⟩), .int .i64 2, .pointer (some ⟨v, 0, none⟩)] w fun e w' => e = .returned (.bool true) ∧ (∃ k, Cur w' v b (off + 2) n k) ∧ (∃ k, Cur w' c b (off + 2 + n) r k) ∧ Upd c v w w' := by
  subst hn
  refine (vector_yes c v b off len cap b0 b1 x w hc (by omega) h1 hf hf2 hcv r0 r1 g0 g1 (by omega)).mono ?_
  rintro e w' ⟨rfl, h3, h4, h5⟩
  have e1 : len - 2 - (b0 * 256 + b1) = r := by omega
  rw [e1] at h4
  exact ⟨rfl, ⟨_, h3⟩, ⟨_, h4⟩, h5⟩

/-- The two variables that parseServerName lays first. -/
theorem start (w : World) (b o Z cap : Nat) (ao : Option Addr) (hcap : Z ≤ cap) (hao : 0 < cap → ao = some ⟨b, o, none⟩) :
    (Cur ((w.alloc (.cells #[.slice ao Z cap] 29)).alloc (.cells #[.slice none 0 0] 29)) w.heap.size b o Z cap ∧ ((w.alloc (.cells #[.slice ao Z cap] 29)).alloc (.cells #[.slice none 0 0] 29)).cell? ⟨w.heap.size + 1, 0, none⟩ = some (.slice none 0 0)) ∧
    (((w.alloc (.cells #[.slice ao Z cap] 29)).alloc (.cells #[.slice none 0 0] 29)).frozen? ⟨w.heap.size, 0, none⟩ = false ∧ ((w.alloc (.cells #[.slice ao Z cap] 29)).alloc (.cells #[.slice none 0 0] 29)).frozen? ⟨w.heap.size + 1, 0, none⟩ = false) ∧
    Below w.heap.size w ((w.alloc (.cells #[.slice ao Z cap] 29)).alloc (.cells #[.slice none 0 0] 29)) ∧ ((w.alloc (.cells #[.slice ao Z cap] 29)).alloc (.cells #[.slice none 0 0] 29)).heap.size = w.heap.size + 2 := by
  refine ⟨⟨⟨ao, ?_, hcap, hao⟩, ?_⟩, ⟨?_, ?_⟩, ((Below.refl _ _).alloc (Nat.le_refl _) _).alloc (by simp) _, by simp⟩ <;> simp [go_sem]

theorem Inp.two {w : World} {b o : Nat} {zs : List Nat} {a : Addr} {s : ByteArray} (h : Inp w b o zs a s) (p : Nat) (hp : p + 1 < zs.length) :
    w.cell? ⟨b, o + p, none⟩ = some (.int .u8 ((zs.getD p 0 : Nat) : Int)) ∧ w.cell? ⟨b, o + p + 1, none⟩ = some (.int .u8 ((zs.getD (p + 1) 0 : Nat) : Int)) :=
  ⟨h.byte p (by omega), h.byte (p + 1) hp⟩

set_option maxRecDepth 100000 in
set_option maxHeartbeats 1000000 in
/-- Fewer than two bytes, or a length that says too much. -/
theorem parse_e1 (F : Interp) (b o : Nat) (zs : List Nat) (a : Addr) (s : ByteArray) (ao : Option Addr) (cap : Nat) (w : World) (hF : F.answers w.tape) (hI : Inp w b o zs a s) (hcap : zs.length ≤ cap) (hao : 0 < cap → ao = some ⟨b, o, none⟩)
    (hbad : zs.length < 2 ∨ (2 ≤ zs.length ∧ zs.length - 2 < zs.getD 0 0 * 256 + zs.getD 1 0)) :
    Calls Ybaf.prog 6 #[.slice ao zs.length cap] w fun e w' => Res w a none e w' := by
  have hnot : ∀ (x : Bool) (w : World), (Op.unary .not (.bool x)).run Ybaf.prog w = .ok (.bool (!x)) w := fun _ _ => rfl
  have HI : Hid _ := hI
  have HF : Hid _ := hF
  obtain ⟨⟨s1, s2⟩, ⟨s3, s4⟩, s5, s6⟩ := start w b o zs.length cap ao hcap hao
  have HS : Hid _ := s5
  have HX : Hid _ := s6
  have HB : Hid _ := hbad
  have HC : Hid _ := s1
  clear hI hF s5 s6 hbad s1 hao
  go_enter Ybaf.func6, Ybaf.ntmps6
  go_wp2_with (first
    | (go_at_call 8; refine (vector_bad _ _ b o zs.length cap (zs.getD 0 0) (zs.getD 1 0) _ _ HC.out s2 (HI.out.small 0) (HI.out.small 1) (fun h => (HI.out.later HS.out).two 0 (by omega)) HB.out).mono ?_; rintro e w1 ⟨rfl, hu⟩; have hb1 := below_upd HS.out hu (by rw [HX.out]; omega) (Nat.le_refl _) (by omega); have hg := (HI.out.later hb1).glob; have HT : Hid _ := (HI.out.later hb1).text; have HB1 : Hid _ := hb1; clear hb1 hu)
    | (go_at_call 9; refine (errorf_at F _ a s _ _ (by have h := HF.out; rw [← HB1.out.tape] at h; exact h) fr0 HT.out).mono ?_; rintro e w2 ⟨p, rfl, hp, hb2⟩))
  go_ret2
  exact ⟨HB1.out.trans (hb2.mono HB1.out.size), Or.inr ⟨rfl, p, rfl, hp⟩⟩

set_option maxRecDepth 100000 in
set_option maxHeartbeats 1000000 in
/-- Bytes behind the list. -/
theorem parse_e2 (F : Interp) (b o : Nat) (zs : List Nat) (a : Addr) (s : ByteArray) (ao : Option Addr) (cap : Nat) (w : World) (hF : F.answers w.tape) (hI : Inp w b o zs a s) (hcap : zs.length ≤ cap) (hao : 0 < cap → ao = some ⟨b, o, none⟩) (n r : Nat) (hr : n + r + 2 = zs.length) (hn : zs.getD 0 0 * 256 + zs.getD 1 0 = n) (hne : 0 < r) :
    Calls Ybaf.prog 6 #[.slice ao zs.length cap] w fun e w' => Res w a none e w' := by
  have hnot : ∀ (x : Bool) (w : World), (Op.unary .not (.bool x)).run Ybaf.prog w = .ok (.bool (!x)) w := fun _ _ => rfl
  have HI : Hid _ := hI
  have HF : Hid _ := hF
  obtain ⟨⟨s1, s2⟩, ⟨s3, s4⟩, s5, s6⟩ := start w b o zs.length cap ao hcap hao
  have HS : Hid _ := s5
  have HX : Hid _ := s6
  have HC : Hid _ := s1
  have HR : Hid _ := hr
  have HN : Hid _ := hn
  clear hI hF s5 s6 s1 hao hr hn
  have hx : ((r : Int) != 0) = true := by rw [bne_iff_ne]; omega
  go_enter Ybaf.func6, Ybaf.ntmps6
  go_wp2_with (first | (go_at_call 8; refine (vector_fit _ _ b o zs.length cap (zs.getD 0 0) (zs.getD 1 0) n r _ _ HC.out HR.out HN.out s2 s4 s3 (by omega) ((HI.out.later HS.out).two 0 (by have := HR.out; omega)).1 ((HI.out.later HS.out).two 0 (by have := HR.out; omega)).2 (HI.out.small 0) (HI.out.small 1)).mono ?_; rintro e w1 ⟨rfl, ⟨k1, a1, c1, l1, d1⟩, ⟨k2, a2, c2, l2, d2⟩, hu⟩; have hb1 := below_upd HS.out hu (by rw [HX.out]; omega) (Nat.le_refl _) (by omega); have hg := (HI.out.later hb1).glob; have HT : Hid _ := (HI.out.later hb1).text; have HB1 : Hid _ := hb1; have HU : Hid _ := hu; have HD1 : Hid _ := d1; clear hb1 hu d1 d2) | (go_at_call 9; refine (errorf_at F _ a s _ _ (by have h := HF.out; rw [← HB1.out.tape] at h; exact h) fr0 HT.out).mono ?_; rintro e w2 ⟨p, rfl, hp, hb2⟩))
  go_ret2
  exact ⟨HB1.out.trans (hb2.mono HB1.out.size), Or.inr ⟨rfl, p, rfl, hp⟩⟩

set_option maxRecDepth 100000 in
set_option maxHeartbeats 1000000 in
/-- An empty list. -/
theorem parse_e3 (F : Interp) (b o : Nat) (zs : List Nat) (a : Addr) (s : ByteArray) (ao : Option Addr) (cap : Nat) (w : World) (hF : F.answers w.tape) (hI : Inp w b o zs a s) (hcap : zs.length ≤ cap) (hao : 0 < cap → ao = some ⟨b, o, none⟩) (n r : Nat) (hr : n + r + 2 = zs.length) (hn : zs.getD 0 0 * 256 + zs.getD 1 0 = n) (hr0 : r = 0) (hn0 : n = 0) :
    Calls Ybaf.prog 6 #[.slice ao zs.length cap] w fun e w' => Res w a none e w' := by
  have hnot : ∀ (x : Bool) (w : World), (Op.unary .not (.bool x)).run Ybaf.prog w = .ok (.bool (!x)) w := fun _ _ => rfl
  have HI : Hid _ := hI
  have HF : Hid _ := hF
  obtain ⟨⟨s1, s2⟩, ⟨s3, s4⟩, s5, s6⟩ := start w b o zs.length cap ao hcap hao
  have HS : Hid _ := s5
  have HX : Hid _ := s6
  have HC : Hid _ := s1
  have HR : Hid _ := hr
  have HN : Hid _ := hn
  clear hI hF s5 s6 s1 hao hr hn
  subst hr0 hn0
  go_enter Ybaf.func6, Ybaf.ntmps6
  go_wp2_with (first | (go_at_call 8; refine (vector_fit _ _ b o zs.length cap (zs.getD 0 0) (zs.getD 1 0) 0 0 _ _ HC.out HR.out HN.out s2 s4 s3 (by omega) ((HI.out.later HS.out).two 0 (by have := HR.out; omega)).1 ((HI.out.later HS.out).two 0 (by have := HR.out; omega)).2 (HI.out.small 0) (HI.out.small 1)).mono ?_; rintro e w1 ⟨rfl, ⟨k1, a1, c1, l1, d1⟩, ⟨k2, a2, c2, l2, d2⟩, hu⟩; have hb1 := below_upd HS.out hu (by rw [HX.out]; omega) (Nat.le_refl _) (by omega); have hg := (HI.out.later hb1).glob; have HT : Hid _ := (HI.out.later hb1).text; have HB1 : Hid _ := hb1; have HU : Hid _ := hu; have HD1 : Hid _ := d1; clear hb1 hu d1 d2) | (go_at_call 9; refine (errorf_at F _ a s _ _ (by have h := HF.out; rw [← HB1.out.tape] at h; exact h) fr1 HT.out).mono ?_; rintro e w2 ⟨p, rfl, hp, hb2⟩))
  go_ret2
  exact ⟨HB1.out.trans (hb2.mono HB1.out.size), Or.inr ⟨rfl, p, rfl, hp⟩⟩
end Go.Proofs.YbulkabacFmt
