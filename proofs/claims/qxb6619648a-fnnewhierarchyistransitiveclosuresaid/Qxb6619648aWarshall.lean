import Derived.Test.Qxb6619648aMat
namespace Go.Proofs.Qxb6619648a
open Go.ChangeShapes Go.WideShapes Go.ChangeAt Go.RowKit
/-! ### Warshall, plainly -/
def Tb (M : Nat → Nat → Bool) : Nat → Nat → Nat → Bool
  | 0 => M
  | t + 1 => fun a b => Tb M t a b || (Tb M t a t && Tb M t t b)
theorem Tb_succ (M : Nat → Nat → Bool) (t a b : Nat) : Tb M (t + 1) a b = (Tb M t a b || (Tb M t a t && Tb M t t b)) := rfl
theorem Tb_row (M : Nat → Nat → Bool) (t b : Nat) : Tb M (t + 1) t b = Tb M t t b := by
  rw [Tb_succ]; cases Tb M t t b <;> simp
theorem Tb_col (M : Nat → Nat → Bool) (t a : Nat) : Tb M (t + 1) a t = Tb M t a t := by
  rw [Tb_succ]; cases Tb M t a t <;> simp
theorem Tb_mono (M : Nat → Nat → Bool) (a b : Nat) : ∀ t, M a b = true → Tb M t a b = true
  | 0, h => h
  | t + 1, h => by rw [Tb_succ, Tb_mono M a b t h]; rfl
theorem Tb_trans (M : Nat → Nat → Bool) : ∀ t a b m, m < t → Tb M t a m = true → Tb M t m b = true → Tb M t a b = true
  | t + 1, a, b, m, hm, h1, h2 => by
    rw [Tb_succ] at h1 h2 ⊢
    simp only [Bool.or_eq_true, Bool.and_eq_true] at h1 h2 ⊢
    by_cases e : m = t
    · subst e
      have g1 : Tb M m a m = true := by rcases h1 with h | h
                                        · exact h
                                        · exact h.1
      have g2 : Tb M m m b = true := by rcases h2 with h | h
                                        · exact h
                                        · exact h.2
      exact .inr ⟨g1, g2⟩
    · have hm' : m < t := by omega
      rcases h1 with h1 | ⟨h1, h3⟩ <;> rcases h2 with h2 | ⟨h2, h4⟩
      · exact .inl (Tb_trans M t a b m hm' h1 h2)
      · exact .inr ⟨Tb_trans M t a t m hm' h1 h2, h4⟩
      · exact .inr ⟨h1, Tb_trans M t t b m hm' h3 h2⟩
      · exact .inr ⟨h1, h4⟩
/-- The state inside the round m, at row a, column b. -/
def mix (M : Nat → Nat → Bool) (m a b : Nat) : Nat → Nat → Bool := fun i j => if i < a ∨ (i = a ∧ j < b) then Tb M (m + 1) i j else Tb M m i j
theorem mix_row (M : Nat → Nat → Bool) (m a b j : Nat) : mix M m a b m j = Tb M m m j := by
  unfold mix; split
  · exact Tb_row M m j
  · rfl
theorem mix_here (M : Nat → Nat → Bool) (m a : Nat) (j : Nat) : mix M m a 0 a j = Tb M m a j := by
  unfold mix; rw [if_neg (by omega)]
theorem mix_start (M : Nat → Nat → Bool) (m i j : Nat) : Tb M m i j = mix M m 0 0 i j := by
  unfold mix; rw [if_neg (by omega)]
theorem mix_end (M : Nat → Nat → Bool) (m n i j : Nat) (hi : i < n) : mix M m n 0 i j = Tb M (m + 1) i j := by
  unfold mix; rw [if_pos (by omega)]
/-- The row a is skipped: reach[a][m] is false. -/
theorem mix_skip (M : Nat → Nat → Bool) (m a i j : Nat) (h : Tb M m a m = false) : mix M m a 0 i j = mix M m (a + 1) 0 i j := by
  unfold mix
  by_cases e : i = a
  · subst e
    rw [if_neg (by omega), if_pos (by omega), Tb_succ, h]; simp
  · by_cases e2 : i < a
    · rw [if_pos (by omega), if_pos (by omega)]
    · rw [if_neg (by omega), if_neg (by omega)]
theorem mix_next (M : Nat → Nat → Bool) (m a n i j : Nat) (hj : j < n) : mix M m a n i j = mix M m (a + 1) 0 i j := by
  unfold mix
  by_cases e : i < a ∨ (i = a ∧ j < n)
  · rw [if_pos e, if_pos (by omega)]
  · rw [if_neg e, if_neg (by omega)]
theorem mix_no (M : Nat → Nat → Bool) (m a b i j : Nat) (h : Tb M m m b = false) : mix M m a b i j = mix M m a (b + 1) i j := by
  unfold mix
  by_cases e : i = a ∧ j = b
  · obtain ⟨rfl, rfl⟩ := e
    rw [if_neg (by omega), if_pos (by omega), Tb_succ, h]; simp
  · by_cases e2 : i < a ∨ (i = a ∧ j < b)
    · rw [if_pos e2, if_pos (by omega)]
    · rw [if_neg e2, if_neg (by omega)]
theorem mix_yes (M : Nat → Nat → Bool) (m a b i j : Nat) (h0 : Tb M m a m = true) (h : Tb M m m b = true) : setM (mix M m a b) a b i j = mix M m a (b + 1) i j := by
  unfold setM mix
  by_cases e : i = a ∧ j = b
  · obtain ⟨rfl, rfl⟩ := e
    rw [if_pos ⟨rfl, rfl⟩, if_pos (by omega), Tb_succ, h0, h]; simp
  · rw [if_neg e]
    by_cases e2 : i < a ∨ (i = a ∧ j < b)
    · rw [if_pos e2, if_pos (by omega)]
    · rw [if_neg e2, if_neg (by omega)]
end Go.Proofs.Qxb6619648a
