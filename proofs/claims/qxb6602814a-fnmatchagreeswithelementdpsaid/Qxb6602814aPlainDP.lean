/-
  PLAINLY: the table-filling matcher over a pattern's elements keeps 'does the pattern match the name'. No Go in sight.
-/
import Derived.Test.Qxb6602814aPlainMatch
namespace Go.Proofs.Qxb6602814a.Pl

/-- Is one of the first k marked? -/
def orU (D : Nat → Bool) : Nat → Bool
  | 0 => false
  | k + 1 => orU D k || D k
theorem orU_iff (D : Nat → Bool) : ∀ k, orU D k = true ↔ ∃ i, i < k ∧ D i = true
  | 0 => by simp [orU]
  | k + 1 => by
    unfold orU
    rw [Bool.or_eq_true, orU_iff D k]
    constructor
    · rintro (⟨i, h1, h2⟩ | h)
      · exact ⟨i, by omega, h2⟩
      · exact ⟨k, by omega, h⟩
    · rintro ⟨i, h1, h2⟩
      by_cases e : i = k
      · subst e; exact .inr h2
      · exact .inl ⟨i, by omega, h2⟩

def starD (D : Nat → Bool) (j : Nat) : Bool := orU D (j + 1)
def elemD (g : Nat → Int) (n p : Nat) (h : Nat → Int) (D : Nat → Bool) : Nat → Bool
  | 0 => false
  | j + 1 => D j && mOk g n p (h j)
def startD (j : Nat) : Bool := decide (j = 0)

/-- What the table keeps. -/
def Keeps (g : Nat → Int) (n : Nat) (h : Nat → Int) (m p : Nat) (D : Nat → Bool) : Prop := A g n h m 0 0 = true ↔ ∃ j, j ≤ m ∧ D j = true ∧ A g n h m p j = true

section
variable {g : Nat → Int} {n : Nat} {h : Nat → Int} {m p : Nat} {D : Nat → Bool}
theorem Keeps.start : Keeps g n h m 0 startD := by
  unfold Keeps startD
  constructor
  · intro h1; exact ⟨0, Nat.zero_le _, by simp, h1⟩
  · rintro ⟨j, _, h2, h3⟩
    have : j = 0 := by simpa using h2
    subst this; exact h3
theorem Keeps.star (K : Keeps g n h m p D) (hp : p < n) (hs : g p = 42) : Keeps g n h m (p + 1) (starD D) := by
  unfold Keeps at *
  rw [K]
  constructor
  · rintro ⟨j, h1, h2, h3⟩
    obtain ⟨u, h4, h5, h6⟩ := (A_star_iff g n h m p hp hs (m - j) j (by omega)).1 h3
    exact ⟨u, h5, (orU_iff D (u + 1)).2 ⟨j, by omega, h2⟩, h6⟩
  · rintro ⟨u, h1, h2, h3⟩
    obtain ⟨j, h4, h5⟩ := (orU_iff D (u + 1)).1 h2
    exact ⟨j, by omega, h5, (A_star_iff g n h m p hp hs (m - j) j (by omega)).2 ⟨u, by omega, h1, h3⟩⟩
theorem Keeps.elem (K : Keeps g n h m p D) (hp : p < n) (hs : g p ≠ 42) : Keeps g n h m (mNext g n p) (elemD g n p h D) := by
  unfold Keeps at *
  rw [K]
  constructor
  · rintro ⟨j, h1, h2, h3⟩
    rw [A_elem g n h m p j hp h1 hs] at h3
    simp only [Bool.and_eq_true, decide_eq_true_eq] at h3
    exact ⟨j + 1, by omega, by simp [elemD, h2, h3.2.1], h3.2.2⟩
  · rintro ⟨j, h1, h2, h3⟩
    match j, h2 with
    | 0, h2 => simp [elemD] at h2
    | j + 1, h2 =>
      simp only [elemD, Bool.and_eq_true] at h2
      refine ⟨j, by omega, h2.1, ?_⟩
      rw [A_elem g n h m p j hp (by omega) hs, decide_eq_true (show j < m by omega), h2.2, h3]; rfl
theorem Keeps.out (K : Keeps g n h m n D) : A g n h m 0 0 = D m := by
  unfold Keeps at K
  rw [Bool.eq_iff_iff, K]
  constructor
  · rintro ⟨j, h1, h2, h3⟩
    rw [A_end] at h3
    have : j = m := by simpa using h3
    subst this; exact h2
  · intro h1
    exact ⟨m, Nat.le_refl _, h1, A_tail_end⟩
end
end Go.Proofs.Qxb6602814a.Pl
