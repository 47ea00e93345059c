/-
  A list of names as bytes, and read again, with no Go in sight.
-/
import Derived.Test.YbulkabacFmtPlain
namespace Go.Proofs.YbulkabacFmt

/-- One entry: its type, its length in two bytes, its bytes. -/
def ent (n : Nat × List Nat) : List Nat := n.1 :: n.2.length / 256 :: n.2.length % 256 :: n.2

def enc : List (Nat × List Nat) → List Nat
  | [] => []
  | n :: L => ent n ++ enc L

/-- The host name that the entries tell. -/
def pick : List (Nat × List Nat) → List Nat → Option (List Nat)
  | [], h => some h
  | n :: L, h => if n.1 ≠ 0 then pick L h else if n.2 = [] ∨ h ≠ [] then none else pick L n.2

theorem enc_append (L M : List (Nat × List Nat)) : enc (L ++ M) = enc L ++ enc M := by
  induction L with
  | nil => rfl
  | cons n L ih => simp only [List.cons_append, enc, ih, List.append_assoc]

theorem ent_length (n : Nat × List Nat) : (ent n).length = 3 + n.2.length := by simp [ent]; omega

theorem ents_enc (L : List (Nat × List Nat)) (f : Nat) (h : List Nat) (hf : (enc L).length < f) : ents f (enc L) h = pick L h := by
  induction L generalizing f h with
  | nil =>
    match f, hf with
    | f + 1, _ => rfl
  | cons n L ih =>
    obtain ⟨k, l⟩ := n
    match f, hf with
    | f + 1, hf =>
      have hlen : (enc ((k, l) :: L)).length = 3 + l.length + (enc L).length := by simp only [enc, List.length_append, ent_length]
      have e0 : enc ((k, l) :: L) = k :: l.length / 256 :: l.length % 256 :: (l ++ enc L) := rfl
      have e1 : l.length / 256 * 256 + l.length % 256 = l.length := by omega
      have hl : ¬ (l ++ enc L).length < l.length / 256 * 256 + l.length % 256 := by rw [e1, List.length_append]; omega
      rw [e0]
      by_cases hk : k ≠ 0
      · rw [ents_skip _ _ _ _ _ _ hl hk, e1, List.drop_left, ih _ _ (by omega)]
        simp only [pick]
        rw [if_pos hk]
      · have hk0 : k = 0 := by omega
        subst hk0
        by_cases hb : l = [] ∨ h ≠ []
        · have hb2 : l.length / 256 * 256 + l.length % 256 = 0 ∨ h ≠ [] := by
            rcases hb with h0 | h0
            · left; rw [e1, h0]; rfl
            · right; exact h0
          rw [ents_bad _ _ _ _ _ hl hb2]
          simp only [pick]
          rw [if_neg hk, if_pos hb]
        · have hh : h = [] := by
            apply Classical.byContradiction
            intro hx
            exact hb (Or.inr hx)
          have hl0 : l ≠ [] := fun hx => hb (Or.inl hx)
          subst hh
          rw [ents_take _ _ _ _ hl (by rw [e1]; intro hx; exact hl0 (List.length_eq_zero_iff.1 hx)), e1, List.drop_left, List.take_left, ih _ _ (by omega)]
          simp only [pick]
          rw [if_neg hk, if_neg hb]

/-- The whole, well made. -/
theorem psn_enc (L : List (Nat × List Nat)) : psn ((enc L).length / 256 :: (enc L).length % 256 :: enc L) = if 0 < (enc L).length then pick L [] else none := by
  simp only [psn]
  by_cases h : 0 < (enc L).length
  · rw [if_pos h, if_pos ⟨by omega, fun e => by rw [e] at h; simp at h⟩]
    exact ents_enc L _ [] (by omega)
  · rw [if_neg h, if_neg (fun e => e.2 (List.length_eq_zero_iff.1 (by omega)))]

/-- A byte too many. -/
theorem psn_extra (L : List (Nat × List Nat)) (x : Nat) : psn ((enc L).length / 256 :: (enc L).length % 256 :: (enc L ++ [x])) = none := by
  simp only [psn]
  rw [if_neg]
  intro h
  have := h.1
  simp at this
  omega

theorem enc_snoc (L : List (Nat × List Nat)) (i : Nat) (hi : i < L.length) : enc (L.take (i + 1)) = enc (L.take i) ++ ent (L.getD i (0, [])) := by
  rw [List.take_add_one, List.getElem?_eq_getElem hi, enc_append, List.getD_eq_getElem?_getD, List.getElem?_eq_getElem hi]
  simp [enc]

theorem pick_skip (L : List (Nat × List Nat)) (i : Nat) (h : List Nat) (hi : i < L.length) (hk : (L.getD i (0, [])).1 ≠ 0) : pick (L.drop i) h = pick (L.drop (i + 1)) h := by
  rw [List.drop_eq_getElem_cons hi]
  rw [List.getD_eq_getElem?_getD, List.getElem?_eq_getElem hi] at hk
  simp only [Option.getD_some] at hk
  simp only [pick]
  rw [if_pos hk]

theorem pick_bad (L : List (Nat × List Nat)) (i : Nat) (h : List Nat) (hi : i < L.length) (hk : (L.getD i (0, [])).1 = 0) (hb : (L.getD i (0, [])).2 = [] ∨ h ≠ []) : pick (L.drop i) h = none := by
  rw [List.drop_eq_getElem_cons hi]
  rw [List.getD_eq_getElem?_getD, List.getElem?_eq_getElem hi] at hk hb
  simp only [Option.getD_some] at hk hb
  simp only [pick]
  rw [if_neg (by simpa using hk), if_pos hb]

theorem pick_take (L : List (Nat × List Nat)) (i : Nat) (hi : i < L.length) (hk : (L.getD i (0, [])).1 = 0) (hb : (L.getD i (0, [])).2 ≠ []) : pick (L.drop i) [] = pick (L.drop (i + 1)) (L.getD i (0, [])).2 := by
  rw [List.drop_eq_getElem_cons hi]
  rw [List.getD_eq_getElem?_getD, List.getElem?_eq_getElem hi] at hk hb ⊢
  simp only [Option.getD_some] at hk hb ⊢
  simp only [pick]
  rw [if_neg (by simpa using hk), if_neg (by simpa using hb)]

theorem pick_end (L : List (Nat × List Nat)) (i : Nat) (h : List Nat) (hi : L.length ≤ i) : pick (L.drop i) h = some h := by
  rw [List.drop_of_length_le hi]
  rfl
end Go.Proofs.YbulkabacFmt
