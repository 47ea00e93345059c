/-
  A server name list, with no Go in sight.
-/
namespace Go.Proofs.YbulkabacFmt

/-- The entries of a list of names, as bytes: a type, a length of two bytes, so many bytes; host is the name found so far. -/
def ents : Nat → List Nat → List Nat → Option (List Nat)
  | 0, _, _ => none
  | _ + 1, [], h => some h
  | f + 1, k :: a :: b :: rest, h =>
    if rest.length < a * 256 + b then none
    else if k ≠ 0 then ents f (rest.drop (a * 256 + b)) h
    else if a * 256 + b = 0 ∨ h ≠ [] then none
    else ents f (rest.drop (a * 256 + b)) (rest.take (a * 256 + b))
  | _ + 1, _, _ => none

/-- The data of the extension. -/
def psn : List Nat → Option (List Nat)
  | a :: b :: rest => if a * 256 + b = rest.length ∧ rest ≠ [] then ents (rest.length + 1) rest [] else none
  | _ => none

theorem ents_nil (f : Nat) (h : List Nat) : ents (f + 1) [] h = some h := rfl

theorem ents_short (f : Nat) (l h : List Nat) (h0 : l ≠ []) (h3 : l.length < 3) : ents f l h = none := by
  match f, l with
  | 0, _ => rfl
  | _ + 1, [] => exact absurd rfl h0
  | _ + 1, [_] => rfl
  | _ + 1, [_, _] => rfl
  | _ + 1, _ :: _ :: _ :: _ => simp at h3; omega

theorem ents_past (f k a b : Nat) (rest h : List Nat) (hl : rest.length < a * 256 + b) : ents (f + 1) (k :: a :: b :: rest) h = none := by
  simp only [ents]; rw [if_pos hl]

theorem ents_skip (f k a b : Nat) (rest h : List Nat) (hl : ¬ rest.length < a * 256 + b) (hk : k ≠ 0) : ents (f + 1) (k :: a :: b :: rest) h = ents f (rest.drop (a * 256 + b)) h := by
  simp only [ents]; rw [if_neg hl, if_pos hk]

theorem ents_bad (f a b : Nat) (rest h : List Nat) (hl : ¬ rest.length < a * 256 + b) (hb : a * 256 + b = 0 ∨ h ≠ []) : ents (f + 1) (0 :: a :: b :: rest) h = none := by
  simp only [ents]; rw [if_neg hl, if_neg (by simp), if_pos hb]

theorem ents_take (f a b : Nat) (rest : List Nat) (hl : ¬ rest.length < a * 256 + b) (hb : a * 256 + b ≠ 0) : ents (f + 1) (0 :: a :: b :: rest) [] = ents f (rest.drop (a * 256 + b)) (rest.take (a * 256 + b)) := by
  simp only [ents]; rw [if_neg hl, if_neg (by simp), if_neg (by simp; omega)]

/-- The string of some bytes. -/
def str (l : List Nat) : ByteArray := ⟨(l.map UInt8.ofNat).toArray⟩

theorem str_fold (l : List Nat) (r : ByteArray) : (l.map (fun n : Nat => (n : Int))).foldl (fun r n => r.push (UInt8.ofNat n.toNat)) r = ⟨r.data ++ (l.map UInt8.ofNat).toArray⟩ := by
  induction l generalizing r with
  | nil => simp
  | cons a l ih =>
    simp only [List.map_cons, List.foldl_cons, Int.toNat_natCast]
    rw [ih]
    congr 1
    show (r.data.push (UInt8.ofNat a)) ++ _ = _
    apply Array.ext'
    simp

theorem str_fold0 (l : List Nat) : (l.map (fun n : Nat => (n : Int))).foldl (fun r n => r.push (UInt8.ofNat n.toNat)) ByteArray.empty = str l := by
  rw [str_fold]
  unfold str
  congr 1
  exact Array.empty_append ..

theorem str_nil : str [] = ⟨#[]⟩ := rfl

theorem str_ne (l : List Nat) (h : l ≠ []) : str l ≠ ⟨#[]⟩ := by
  intro e
  have := congrArg (fun s : ByteArray => s.data.size) e
  simp [str] at this
  exact h this

/-- Position p of a list of bytes. -/
theorem drop_three (zs : List Nat) (p : Nat) (h : p + 3 ≤ zs.length) : zs.drop p = zs.getD p 0 :: zs.getD (p + 1) 0 :: zs.getD (p + 2) 0 :: zs.drop (p + 3) := by
  rw [List.drop_eq_getElem_cons (by omega), List.drop_eq_getElem_cons (by omega), List.drop_eq_getElem_cons (by omega)]
  simp only [List.getD_eq_getElem?_getD, List.getElem?_eq_getElem (show p < zs.length by omega), List.getElem?_eq_getElem (show p + 1 < zs.length by omega), List.getElem?_eq_getElem (show p + 2 < zs.length by omega), Option.getD_some]

theorem psn_short (zs : List Nat) (h : zs.length < 2) : psn zs = none := by
  match zs with
  | [] => rfl
  | [_] => rfl
  | _ :: _ :: _ => simp at h; omega

theorem psn_two (zs : List Nat) (h : 2 ≤ zs.length) : psn zs = if zs.getD 0 0 * 256 + zs.getD 1 0 = zs.length - 2 ∧ zs.length ≠ 2 then ents (zs.length - 2 + 1) (zs.drop 2) [] else none := by
  match zs with
  | [] => simp at h
  | [_] => simp at h
  | a :: b :: rest =>
    simp only [psn, List.getD_cons_zero, List.getD_cons_succ, List.length_cons, List.drop_succ_cons, List.drop_zero]
    have e : rest.length + 1 + 1 - 2 = rest.length := by omega
    rw [e]
    have e2 : (rest ≠ []) ↔ (rest.length + 1 + 1 ≠ 2) := by
      rw [Ne, ← List.length_eq_zero_iff]; omega
    by_cases hc : a * 256 + b = rest.length ∧ rest ≠ []
    · rw [if_pos hc, if_pos ⟨hc.1, e2.1 hc.2⟩]
    · rw [if_neg hc, if_neg (fun h => hc ⟨h.1, e2.2 h.2⟩)]

end Go.Proofs.YbulkabacFmt
