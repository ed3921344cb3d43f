/-
  PLAINLY: what it is for a pattern to match a name; that going back to the last star alone finds it. No Go in sight.
  The pattern: bytes g, n of them; the name: bytes h, m of them.
-/
import Derived.Test.Qxb6602814aPlain
namespace Go.Proofs.Qxb6602814a.Pl

/-- Does the pattern from p on match the name from j on? -/
def mt (g : Nat → Int) (n : Nat) (h : Nat → Int) (m : Nat) : Nat → Nat → Nat → Bool
  | 0, _, _ => false
  | f + 1, p, j =>
    if p < n then
      if g p = 42 then mt g n h m f (p + 1) j || (decide (j < m) && mt g n h m f p (j + 1))
      else decide (j < m) && (mOk g n p (h j) && mt g n h m f (mNext g n p) (j + 1))
    else decide (j = m)

theorem mt_fuel (g : Nat → Int) (n : Nat) (h : Nat → Int) (m : Nat) : ∀ f f' p j, p ≤ n → j ≤ m → n + m + 1 ≤ f + p + j → n + m + 1 ≤ f' + p + j → mt g n h m f p j = mt g n h m f' p j
  | 0, _, p, j, h1, h2, h3, _ => by omega
  | f + 1, 0, p, j, h1, h2, _, h4 => by omega
  | f + 1, f' + 1, p, j, h1, h2, h3, h4 => by
    unfold mt
    by_cases hp : p < n
    · rw [if_pos hp, if_pos hp]
      by_cases hs : g p = 42
      · rw [if_pos hs, if_pos hs, mt_fuel g n h m f f' (p + 1) j (by omega) h2 (by omega) (by omega)]
        by_cases hj : j < m
        · rw [mt_fuel g n h m f f' p (j + 1) (by omega) (by omega) (by omega) (by omega)]
        · simp [hj]
      · rw [if_neg hs, if_neg hs]
        by_cases hj : j < m
        · have := mNext_in g n p hp
          rw [mt_fuel g n h m f f' (mNext g n p) (j + 1) (by omega) (by omega) (by omega) (by omega)]
        · simp [hj]
    · rw [if_neg hp, if_neg hp]

def A (g : Nat → Int) (n : Nat) (h : Nat → Int) (m p j : Nat) : Bool := mt g n h m (n + m + 1) p j

theorem A_end (g : Nat → Int) (n : Nat) (h : Nat → Int) (m j : Nat) : A g n h m n j = decide (j = m) := by
  unfold A mt; rw [if_neg (by omega)]
theorem A_star (g : Nat → Int) (n : Nat) (h : Nat → Int) (m p j : Nat) (hp : p < n) (hj : j ≤ m) (hs : g p = 42) : A g n h m p j = (A g n h m (p + 1) j || (decide (j < m) && A g n h m p (j + 1))) := by
  unfold A
  conv => lhs; unfold mt
  rw [if_pos hp, if_pos hs, mt_fuel g n h m (n + m) (n + m + 1) (p + 1) j (by omega) hj (by omega) (by omega)]
  by_cases h1 : j < m
  · rw [mt_fuel g n h m (n + m) (n + m + 1) p (j + 1) (by omega) (by omega) (by omega) (by omega)]
  · simp [h1]
theorem A_elem (g : Nat → Int) (n : Nat) (h : Nat → Int) (m p j : Nat) (hp : p < n) (_hj : j ≤ m) (hs : g p ≠ 42) : A g n h m p j = (decide (j < m) && (mOk g n p (h j) && A g n h m (mNext g n p) (j + 1))) := by
  unfold A
  conv => lhs; unfold mt
  rw [if_pos hp, if_neg hs]
  by_cases h1 : j < m
  · have := mNext_in g n p hp
    rw [mt_fuel g n h m (n + m) (n + m + 1) (mNext g n p) (j + 1) (by omega) (by omega) (by omega) (by omega)]
  · simp [h1]

/-- A star takes any run of bytes. -/
theorem A_star_iff (g : Nat → Int) (n : Nat) (h : Nat → Int) (m p : Nat) (hp : p < n) (hs : g p = 42) : ∀ d j, j + d = m → (A g n h m p j = true ↔ ∃ u, j ≤ u ∧ u ≤ m ∧ A g n h m (p + 1) u = true)
  | 0, j, hj => by
    rw [A_star g n h m p j hp (by omega) hs]
    have : ¬ j < m := by omega
    simp only [this, decide_false, Bool.false_and, Bool.or_false]
    constructor
    · intro h1; exact ⟨j, Nat.le_refl _, by omega, h1⟩
    · rintro ⟨u, h1, h2, h3⟩
      have : u = j := by omega
      subst this; exact h3
  | d + 1, j, hj => by
    rw [A_star g n h m p j hp (by omega) hs]
    have hlt : j < m := by omega
    rw [Bool.or_eq_true, decide_eq_true hlt, Bool.true_and, A_star_iff g n h m p hp hs d (j + 1) (by omega)]
    constructor
    · rintro (h1 | ⟨u, h1, h2, h3⟩)
      · exact ⟨j, Nat.le_refl _, by omega, h1⟩
      · exact ⟨u, by omega, h2, h3⟩
    · rintro ⟨u, h1, h2, h3⟩
      by_cases e : u = j
      · subst e; exact .inl h3
      · exact .inr ⟨u, by omega, h2, h3⟩

/-- What holds at every round of Match: p, j: where pattern and name stand; S: one behind the last star (0: none yet); U: where its run ends. -/
structure MInv (g : Nat → Int) (n : Nat) (h : Nat → Int) (m p j S U : Nat) : Prop where
  hp : p ≤ n
  hj : j ≤ m
  hU : U ≤ j
  hS : S ≤ p
  i1 : A g n h m 0 0 = true ↔ (A g n h m p j = true ∨ (1 ≤ S ∧ ∃ u, U < u ∧ u ≤ m ∧ A g n h m S u = true))
  i2 : 1 ≤ S → ∀ u, u ≤ m → A g n h m S u = true → u + (j - U) ≤ m ∧ A g n h m p (u + (j - U)) = true

section
variable {g : Nat → Int} {n : Nat} {h : Nat → Int} {m p j S U : Nat}

theorem MInv.start : MInv g n h m 0 0 0 0 := ⟨Nat.zero_le _, Nat.zero_le _, Nat.le_refl _, Nat.le_refl _, by simp, by simp⟩

theorem MInv.star (I : MInv g n h m p j S U) (hp : p < n) (hs : g p = 42) : MInv g n h m (p + 1) j (p + 1) j := by
  refine ⟨by omega, I.hj, Nat.le_refl _, Nat.le_refl _, ?_, ?_⟩
  · rw [I.i1]
    have hst := A_star_iff g n h m p hp hs (m - j) j (by have := I.hj; omega)
    constructor
    · intro hh
      have hA : A g n h m p j = true := by
        rcases hh with h1 | ⟨h1, u, h2, h3, h4⟩
        · exact h1
        · obtain ⟨h5, h6⟩ := I.i2 h1 u h3 h4
          obtain ⟨v, h7, h8, h9⟩ := (A_star_iff g n h m p hp hs (m - (u + (j - U))) _ (by omega)).1 h6
          exact hst.2 ⟨v, by have := I.hU; omega, h8, h9⟩
      obtain ⟨v, h7, h8, h9⟩ := hst.1 hA
      by_cases e : v = j
      · subst e; exact .inl h9
      · exact .inr ⟨by omega, v, by omega, h8, h9⟩
    · rintro (h1 | ⟨_, u, h2, h3, h4⟩)
      · exact .inl (hst.2 ⟨j, Nat.le_refl _, I.hj, h1⟩)
      · exact .inl (hst.2 ⟨u, by omega, h3, h4⟩)
  · intro _ u hu hA
    simp only [Nat.sub_self, Nat.add_zero]
    exact ⟨hu, hA⟩

theorem MInv.elem (I : MInv g n h m p j S U) (hp : p < n) (hs : g p ≠ 42) (hj : j < m) (hok : mOk g n p (h j) = true) : MInv g n h m (mNext g n p) (j + 1) S U := by
  have hn := mNext_in g n p hp
  refine ⟨by omega, by omega, by have := I.hU; omega, by have := I.hS; omega, ?_, ?_⟩
  · rw [I.i1, A_elem g n h m p j hp I.hj hs, decide_eq_true hj, hok]; simp
  · intro h1 u hu hA
    obtain ⟨h2, h3⟩ := I.i2 h1 u hu hA
    rw [A_elem g n h m p _ hp h2 hs] at h3
    simp only [Bool.and_eq_true, decide_eq_true_eq] at h3
    have := I.hU
    have e : u + (j + 1 - U) = u + (j - U) + 1 := by omega
    rw [e]
    exact ⟨by omega, h3.2.2⟩

theorem MInv.fail (I : MInv g n h m p j S U) (hj : j < m) (hf : p = n ∨ (p < n ∧ g p ≠ 42 ∧ mOk g n p (h j) = false)) : A g n h m p j = false := by
  rcases hf with rfl | ⟨hp, hs, ho⟩
  · rw [A_end]; simp; omega
  · rw [A_elem g n h m p j hp I.hj hs, ho]; simp

theorem MInv.none (I : MInv g n h m p j 0 U) (hA : A g n h m p j = false) : A g n h m 0 0 = false := by
  cases e : A g n h m 0 0 with
  | false => rfl
  | true =>
    rcases I.i1.1 e with h1 | ⟨h1, _⟩
    · rw [hA] at h1; exact h1.symm
    · omega

theorem MInv.back (I : MInv g n h m p j S U) (hS : 1 ≤ S) (hj : j < m) (hA : A g n h m p j = false) : MInv g n h m S (U + 1) S (U + 1) := by
  have hU := I.hU
  refine ⟨by have := I.hS; have := I.hp; omega, by omega, Nat.le_refl _, Nat.le_refl _, ?_, ?_⟩
  · rw [I.i1, hA]
    constructor
    · rintro (h1 | ⟨_, u, h2, h3, h4⟩)
      · simp at h1
      · by_cases e : u = U + 1
        · subst e; exact .inl h4
        · exact .inr ⟨hS, u, by omega, h3, h4⟩
    · rintro (h1 | ⟨_, u, h2, h3, h4⟩)
      · exact .inr ⟨hS, U + 1, by omega, by omega, h1⟩
      · exact .inr ⟨hS, u, by omega, h3, h4⟩
  · intro _ u hu hA
    simp only [Nat.sub_self, Nat.add_zero]
    exact ⟨hu, hA⟩

theorem MInv.out (I : MInv g n h m p m S U) : A g n h m 0 0 = A g n h m p m := by
  rw [Bool.eq_iff_iff, I.i1]
  constructor
  · rintro (h1 | ⟨h1, u, h2, h3, h4⟩)
    · exact h1
    · have := I.hU
      have := (I.i2 h1 u h3 h4).1
      omega
  · exact .inl

theorem A_tail_star (hp : p < n) (hs : g p = 42) : A g n h m p m = A g n h m (p + 1) m := by
  rw [A_star g n h m p m hp (Nat.le_refl _) hs]; simp
theorem A_tail_elem (hp : p < n) (hs : g p ≠ 42) : A g n h m p m = false := by
  rw [A_elem g n h m p m hp (Nat.le_refl _) hs]; simp
theorem A_tail_end : A g n h m n m = true := by rw [A_end]; simp
end

/-- How many rounds are still to come, at most. -/
def rounds (n m p S U : Nat) : Nat := ((n + 1 - S) * (m + 2) + (m + 1 - U)) * (n + 2) + (n + 1 - p)

theorem rounds_elem (n m p p' S U : Nat) (h1 : p < p') (h2 : p' ≤ n) : rounds n m p' S U < rounds n m p S U := by
  unfold rounds; omega
theorem mul_step (X Y n a b : Nat) (h : X < Y) (ha : a ≤ n + 1) : X * (n + 2) + a < Y * (n + 2) + b := by
  have := Nat.mul_le_mul_right (n + 2) (show X + 1 ≤ Y from h)
  rw [Nat.add_mul] at this
  omega
theorem rounds_back (n m p S U : Nat) (h1 : U < m) : rounds n m S S (U + 1) < rounds n m p S U := by
  unfold rounds
  exact mul_step _ _ n _ _ (by omega) (by omega)
theorem rounds_star (n m p j S U : Nat) (h1 : S ≤ p) (h2 : p < n) : rounds n m (p + 1) (p + 1) j < rounds n m p S U := by
  unfold rounds
  refine mul_step _ _ n _ _ ?_ (by omega)
  have := Nat.mul_le_mul_right (m + 2) (show (n + 1 - (p + 1)) + 1 ≤ n + 1 - S by omega)
  rw [Nat.add_mul] at this
  omega

end Go.Proofs.Qxb6602814a.Pl
