/-
  The plain law of the last date: no Go in sight.
-/
import Derived.Test.Qxb6001755aLast
namespace Go.Proofs.Qxb6001755a

theorem ltD_iff (a b : Dt) : ltD a b = true ↔ (a.1 < b.1 ∨ (a.1 = b.1 ∧ (a.2.1 < b.2.1 ∨ (a.2.1 = b.2.1 ∧ a.2.2 < b.2.2)))) := by
  unfold ltD
  by_cases h1 : a.1 = b.1
  · rw [if_pos h1]
    by_cases h2 : a.2.1 = b.2.1
    · rw [if_pos h2]; simp only [decide_eq_true_iff]; omega
    · rw [if_neg h2]; simp only [decide_eq_true_iff]; omega
  · rw [if_neg h1]; simp only [decide_eq_true_iff]; omega

theorem cmpI_pos (x y : Int) : 0 < cmpI x y ↔ y < x := by
  unfold cmpI
  by_cases h : x < y
  · rw [if_pos h]; omega
  · rw [if_neg h]
    by_cases h2 : y < x
    · rw [if_pos h2]; omega
    · rw [if_neg h2]; omega
theorem cmpI_zero (x y : Int) : cmpI x y = 0 ↔ x = y := by
  unfold cmpI
  by_cases h : x < y
  · rw [if_pos h]; omega
  · rw [if_neg h]
    by_cases h2 : y < x
    · rw [if_pos h2]; omega
    · rw [if_neg h2]; omega

theorem cmpD_pos (a b : Dt) : 0 < cmpD a b ↔ ltD b a = true := by
  rw [ltD_iff]
  unfold cmpD firstNZ
  by_cases h1 : a.1 = b.1
  · rw [if_pos ((cmpI_zero _ _).2 h1)]
    unfold firstNZ
    by_cases h2 : a.2.1 = b.2.1
    · rw [if_pos ((cmpI_zero _ _).2 h2)]
      unfold firstNZ
      by_cases h3 : a.2.2 = b.2.2
      · rw [if_pos ((cmpI_zero _ _).2 h3)]
        simp only [firstNZ]; omega
      · rw [if_neg (fun e => h3 ((cmpI_zero _ _).1 e)), cmpI_pos]; omega
    · rw [if_neg (fun e => h2 ((cmpI_zero _ _).1 e)), cmpI_pos]; omega
  · rw [if_neg (fun e => h1 ((cmpI_zero _ _).1 e)), cmpI_pos]; omega

theorem ltD_false (a b : Dt) : ltD a b = false ↔ ¬ (a.1 < b.1 ∨ (a.1 = b.1 ∧ (a.2.1 < b.2.1 ∨ (a.2.1 = b.2.1 ∧ a.2.2 < b.2.2)))) := by
  rw [← ltD_iff]
  simp
/-- 'not before' is handed on -/
theorem le_trans {a b c : Dt} (h1 : ltD b a = false) (h2 : ltD c b = false) : ltD c a = false := by
  rw [ltD_false] at *
  omega
theorem le_refl (a : Dt) : ltD a a = false := by
  rw [ltD_false]; omega

theorem last_step (ys ms ds : List Int) (k : Nat) : ltD (lastTo ys ms ds (k + 1)) (lastTo ys ms ds k) = false ∧ ltD (lastTo ys ms ds (k + 1)) (dk ys ms ds k) = false := by
  simp only [lastTo]
  by_cases h : 0 < cmpD (dk ys ms ds k) (lastTo ys ms ds k)
  · rw [if_pos h]
    rw [cmpD_pos] at h
    refine ⟨?_, le_refl _⟩
    rw [ltD_iff] at h
    rw [ltD_false]
    omega
  · rw [if_neg h]
    rw [cmpD_pos] at h
    exact ⟨le_refl _, by simpa using h⟩

theorem last_ge (ys ms ds : List Int) : ∀ n k : Nat, k ≤ n → ltD (lastTo ys ms ds n) (lastTo ys ms ds k) = false
  | 0, k, h => by
    have : k = 0 := by omega
    subst this
    exact le_refl _
  | n + 1, k, h => by
    by_cases e : k = n + 1
    · subst e; exact le_refl _
    · exact le_trans (last_ge ys ms ds n k (by omega)) (last_step ys ms ds n).1

/-- it is not before the zero date -/
theorem last_zero (ys ms ds : List Int) (n : Nat) : ltD (lastTo ys ms ds n) (0, 0, 0) = false := last_ge ys ms ds n 0 (Nat.zero_le _)
/-- no event is later -/
theorem last_all (ys ms ds : List Int) {n k : Nat} (h : k < n) : ltD (lastTo ys ms ds n) (dk ys ms ds k) = false :=
  le_trans (last_step ys ms ds k).2 (last_ge ys ms ds n (k + 1) h)

/-- the zero date or the date of some event -/
theorem last_found (ys ms ds : List Int) : ∀ n : Nat, lastTo ys ms ds n = (0, 0, 0) ∨ ∃ k, k < n ∧ dk ys ms ds k = lastTo ys ms ds n
  | 0 => Or.inl rfl
  | n + 1 => by
    by_cases h : 0 < cmpD (dk ys ms ds n) (lastTo ys ms ds n)
    · exact Or.inr ⟨n, by omega, by simp only [lastTo]; rw [if_pos h]⟩
    · have e : lastTo ys ms ds (n + 1) = lastTo ys ms ds n := by simp only [lastTo]; rw [if_neg h]
      rw [e]
      rcases last_found ys ms ds n with h0 | ⟨k, hk, h0⟩
      · exact Or.inl h0
      · exact Or.inr ⟨k, by omega, h0⟩

/-- what 'found' holds before round k -/
def foundTo (ys ms ds : List Int) (r : Dt) : Nat → Bool
  | 0 => decide (r = (0, 0, 0))
  | k + 1 => foundTo ys ms ds r k || decide (dk ys ms ds k = r)
theorem foundTo_mem (ys ms ds : List Int) (r : Dt) : ∀ {n k : Nat}, k < n → dk ys ms ds k = r → foundTo ys ms ds r n = true
  | 0, k, h, _ => by omega
  | n + 1, k, h, e => by
    simp only [foundTo]
    by_cases e' : k = n
    · subst e'; simp [e]
    · rw [foundTo_mem ys ms ds r (by omega) e]; rfl
theorem foundTo_zero (ys ms ds : List Int) (r : Dt) (h : r = (0, 0, 0)) : ∀ n : Nat, foundTo ys ms ds r n = true
  | 0 => by simp [foundTo, h]
  | n + 1 => by simp only [foundTo]; rw [foundTo_zero ys ms ds r h n]; rfl
theorem found_end (ys ms ds : List Int) (n : Nat) : foundTo ys ms ds (lastTo ys ms ds n) n = true := by
  rcases last_found ys ms ds n with h | ⟨k, hk, h⟩
  · exact foundTo_zero _ _ _ _ h n
  · exact foundTo_mem _ _ _ _ hk h

end Go.Proofs.Qxb6001755a
