/-
  Open addressing, with no Go in sight.
-/
namespace Go.Proofs.Ybulkaaww

def upd {α : Type} (F : Nat → α) (k : Nat) (v : α) : Nat → α := fun s => if s = k then v else F s

/-- How many of the first n slots are held. -/
def cnt (F : Nat → Int) : Nat → Nat
  | 0 => 0
  | n + 1 => cnt F n + (if F n = 0 then 0 else 1)

theorem cnt_le (F : Nat → Int) : ∀ n, cnt F n ≤ n
  | 0 => Nat.le_refl _
  | n + 1 => by
    have := cnt_le F n
    simp only [cnt]
    split <;> omega

theorem cnt_zero : ∀ n, cnt (fun _ => 0) n = 0
  | 0 => rfl
  | n + 1 => by simp only [cnt, cnt_zero n]; rfl

theorem cnt_free (F : Nat → Int) : ∀ n, cnt F n < n → ∃ k, k < n ∧ F k = 0
  | 0, h => absurd h (Nat.not_lt_zero _)
  | n + 1, h => by
    by_cases h0 : F n = 0
    · exact ⟨n, by omega, h0⟩
    · simp only [cnt, if_neg h0] at h
      obtain ⟨k, hk, hf⟩ := cnt_free F n (by omega)
      exact ⟨k, by omega, hf⟩

theorem cnt_far (F : Nat → Int) (k : Nat) (v : Int) : ∀ n, n ≤ k → cnt (upd F k v) n = cnt F n
  | 0, _ => rfl
  | n + 1, h => by
    have e : upd F k v n = F n := by simp only [upd]; rw [if_neg (by omega)]
    simp only [cnt, cnt_far F k v n (by omega), e]

theorem cnt_upd (F : Nat → Int) (k : Nat) (v : Int) (hf : F k = 0) (hv : v ≠ 0) : ∀ n, k < n → cnt (upd F k v) n = cnt F n + 1
  | 0, h => absurd h (Nat.not_lt_zero _)
  | n + 1, h => by
    by_cases hk : k = n
    · subst hk
      have e : upd F k v k = v := by simp [upd]
      simp only [cnt, cnt_far F k v k (Nat.le_refl _), e, if_neg hv, if_pos hf]
    · have e : upd F k v n = F n := by simp only [upd]; rw [if_neg (by omega)]
      simp only [cnt, cnt_upd F k v hf hv n (by omega), e]
      omega

theorem least {p : Nat → Prop} : ∀ n, p n → ∃ m, m ≤ n ∧ p m ∧ ∀ d, d < m → ¬ p d := by
  intro n
  induction n using Nat.strongRecOn with
  | _ n ih =>
    intro hn
    by_cases hm : ∃ m, m < n ∧ p m
    · obtain ⟨m, hlt, hp⟩ := hm
      obtain ⟨d, h1, h2, h3⟩ := ih m hlt hp
      exact ⟨d, by omega, h2, h3⟩
    · exact ⟨n, Nat.le_refl _, hn, fun d hd hp => hm ⟨d, hd, hp⟩⟩

/-- From slot f on, the first free slot. -/
theorem free_from (F : Nat → Int) (N f : Nat) (hf : f < N) (h : cnt F N < N) :
    ∃ d, d < N ∧ F ((f + d) % N) = 0 ∧ ∀ e, e < d → F ((f + e) % N) ≠ 0 := by
  obtain ⟨k, hk, h0⟩ := cnt_free F N h
  have hp : F ((f + (k + N - f) % N) % N) = 0 := by
    have e : (f + (k + N - f) % N) % N = k := by
      rw [Nat.add_mod_mod, show f + (k + N - f) = k + N from by omega, Nat.add_mod_right]
      exact Nat.mod_eq_of_lt hk
    rw [e]
    exact h0
  obtain ⟨d, h1, h2, h3⟩ := least (p := fun d => F ((f + d) % N) = 0) _ hp
  have : (k + N - f) % N < N := Nat.mod_lt _ (by omega)
  exact ⟨d, by omega, h2, h3⟩

/-- A search from slot f for number a meets no free slot before it meets a, with its tag. -/
def Path (N : Nat) (tg : Bool) (F T : Nat → Int) (f : Nat) (a : Int) (tag : Int) : Prop :=
  ∃ d, d < N ∧ (∀ e, e ≤ d → F ((f + e) % N) ≠ 0) ∧ F ((f + d) % N) = a + 1 ∧ (tg = true → T ((f + d) % N) = tag)

def updT (tg : Bool) (T : Nat → Int) (k : Nat) (v : Int) : Nat → Int := if tg = true then upd T k v else T

theorem path_keep {N : Nat} {tg : Bool} {F T : Nat → Int} {f : Nat} {a tag : Int} (h : Path N tg F T f a tag) {k : Nat} (hk : F k = 0) {v t : Int} (hv : v ≠ 0) :
    Path N tg (upd F k v) (updT tg T k t) f a tag := by
  obtain ⟨d, h1, h2, h3, h4⟩ := h
  have hne : (f + d) % N ≠ k := fun e => h2 d (Nat.le_refl _) (by rw [e]; exact hk)
  refine ⟨d, h1, fun e he => ?_, ?_, fun ht => ?_⟩
  · simp only [upd]
    split
    · exact hv
    · exact h2 e he
  · simp only [upd, if_neg hne]
    exact h3
  · simp only [updT, if_pos ht, upd, if_neg hne]
    exact h4 ht

theorem path_new {N : Nat} {tg : Bool} {F T : Nat → Int} {f d : Nat} {a tag : Int} (ha : 0 ≤ a) (hd : d < N) (h : ∀ e, e < d → F ((f + e) % N) ≠ 0) :
    Path N tg (upd F ((f + d) % N) (a + 1)) (updT tg T ((f + d) % N) tag) f a tag := by
  refine ⟨d, hd, fun e he => ?_, ?_, fun ht => ?_⟩
  · simp only [upd]
    split
    · omega
    · rename_i hne
      exact h e (by
        rcases Nat.lt_or_ge e d with h | h
        · exact h
        · exact absurd (by rw [show e = d from by omega]) hne)
  · simp [upd]
  · simp [updT, ht, upd]

end Go.Proofs.Ybulkaaww
