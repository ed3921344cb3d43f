/-
  PLAINLY: matchOne reads nothing ahead of p and nothing behind the element that it cuts out. No Go in sight.
-/
import Derived.Test.Qxb6602814aPlain
namespace Go.Proofs.Qxb6602814a.Pl

theorem lo_local (g : Nat → Int) (n p q e : Nat) (h1 : loAt g n (p + q) + 1 < e) (h2 : e ≤ n) : loAt (fun i => g (p + i)) (e - p) q + p = loAt g n (p + q) := by
  unfold loAt at h1 ⊢
  by_cases h : (g (p + q) == 92) = true ∧ p + q + 1 < n
  · rw [if_pos h] at h1 ⊢
    rw [if_pos ⟨h.1, by omega⟩]; omega
  · rw [if_neg h] at h1 ⊢
    rw [if_neg (fun hh => h ⟨hh.1, by omega⟩)]; omega

theorem hi_local (g : Nat → Int) (n p q e : Nat) (h1 : hiAt g n (p + q) + 1 < e) (h2 : e ≤ n) : hiAt (fun i => g (p + i)) (e - p) q + p = hiAt g n (p + q) := by
  unfold hiAt at h1 ⊢
  by_cases h : p + q + 2 < n ∧ (g (p + q + 1) == 45) = true ∧ (g (p + q + 2) != 93) = true
  · rw [if_pos h] at h1 ⊢
    by_cases h3 : (g (p + q + 2) == 92) = true ∧ p + q + 3 < n
    · rw [if_pos h3] at h1 ⊢
      rw [if_pos ⟨by omega, h.2.1, h.2.2⟩, if_pos ⟨h3.1, by omega⟩]; omega
    · rw [if_neg h3] at h1 ⊢
      rw [if_pos ⟨by omega, h.2.1, h.2.2⟩, if_neg (fun hh => h3 ⟨hh.1, by omega⟩)]; omega
  · rw [if_neg h] at h1 ⊢
    rw [if_neg (fun hh => h ⟨by omega, hh.2.1, hh.2.2⟩)]; omega

theorem setLoop_local (g : Nat → Int) (n : Nat) (c : Int) (neg : Bool) (p e : Nat) (i : Bool) : ∀ f q inn first, setLoop g n c neg f (p + q) inn first = (e, i, true) →
    setLoop (fun i => g (p + i)) (e - p) c neg f q inn first = (e - p, i, true)
  | 0, q, inn, first, h => by simp [setLoop] at h
  | f + 1, q, inn, first, h => by
    have hs := (setLoop_span g n c c neg (f + 1) (p + q) inn inn first).2.2 (by rw [h])
    rw [h] at hs
    simp only at hs
    unfold setLoop at h ⊢
    have hpq : p + q < n := by omega
    rw [if_pos hpq] at h
    rw [if_pos (by omega)]
    by_cases hc : (g (p + q) == 93) = true ∧ first = false
    · rw [if_pos hc] at h
      rw [if_pos hc]
      simp only [Prod.mk.injEq] at h ⊢
      exact ⟨by omega, h.2.1, trivial⟩
    · rw [if_neg hc] at h
      rw [if_neg hc]
      have hs2 := (setLoop_span g n c c neg f _ _ false false).2.2 (by rw [h])
      rw [h] at hs2
      simp only at hs2
      have g1 := hiAt_ge g n (loAt g n (p + q))
      have e1 := lo_local g n p q e (by omega) (by omega)
      have e1' : p + loAt (fun i => g (p + i)) (e - p) q = loAt g n (p + q) := by omega
      have e2 := hi_local g n p (loAt (fun i => g (p + i)) (e - p) q) e (by rw [e1']; omega) (by omega)
      rw [e1'] at e2
      have e2' : p + hiAt (fun i => g (p + i)) (e - p) (loAt (fun i => g (p + i)) (e - p) q) = hiAt g n (loAt g n (p + q)) := by omega
      have ih := setLoop_local g n c neg p e i f (hiAt (fun i => g (p + i)) (e - p) (loAt (fun i => g (p + i)) (e - p) q) + 1)
        (inn || within (g (loAt g n (p + q))) (g (hiAt g n (loAt g n (p + q)))) c) false (by rw [← Nat.add_assoc, e2']; exact h)
      rw [← ih]
      show setLoop _ _ _ _ _ _ (inn || within (g (p + _)) (g (p + _)) c) false = _
      rw [e1', e2']

theorem inSet_local (g : Nat → Int) (n p : Nat) (c : Int) (h : (inSet g n (p + 1) c).2.2 = true) :
    inSet (fun i => g (p + i)) ((inSet g n (p + 1) c).1 - p) 1 c = ((inSet g n (p + 1) c).1 - p, (inSet g n (p + 1) c).2.1, true) := by
  have hs := (inSet_span g n (p + 1) c c).2.2 h
  rcases hr : inSet g n (p + 1) c with ⟨e, i, o⟩
  simp only [hr] at h hs ⊢
  subst h
  unfold inSet at hr ⊢
  have hcar : caret (fun i => g (p + i)) (e - p) 1 = caret g n (p + 1) := by
    unfold caret
    rw [decide_eq_true (show 1 < e - p by omega), decide_eq_true (show p + 1 < n by omega)]
  rw [hcar]
  have e0 : (if caret g n (p + 1) = true then p + 1 + 1 else p + 1) = p + (if caret g n (p + 1) = true then 1 + 1 else 1) := by split <;> omega
  rw [e0] at hr
  have hl := setLoop_local g n c (caret g n (p + 1)) p e i n _ false true hr
  rw [← hl]
  exact setLoop_fuel _ _ _ _ _ _ _ _ _ (by omega) (by omega)

/-- The element laid alone gives the same answer and the same span. -/
theorem mOne_local (g : Nat → Int) (n p : Nat) (c : Int) (h : p < n) :
    mNext (fun i => g (p + i)) (mNext g n p - p) 0 = mNext g n p - p ∧ mOk (fun i => g (p + i)) (mNext g n p - p) 0 c = mOk g n p c := by
  have hne : p ≠ n := by omega
  have hin := mNext_in g n p h
  by_cases h1 : g p = 63
  · have e : mNext g n p = p + 1 := by simp [mNext, hne, h1]
    rw [e]; simp [mNext, mOk, h1, hne]
  by_cases h2 : g p = 92
  · by_cases h3 : p + 1 < n
    · have e : mNext g n p = p + 2 := by simp [mNext, hne, h2, h3]
      rw [e]; simp [mNext, mOk, h2, hne, h3]
    · have e : mNext g n p = p + 1 := by simp [mNext, hne, h2, h3]
      rw [e]; simp [mNext, mOk, h2, hne, h3]
  by_cases h3 : g p = 91
  · cases ho : (inSet g n (p + 1) c).2.2
    · have ho0 : (inSet g n (p + 1) 0).2.2 = false := by rw [(inSet_span g n (p + 1) 0 c).2.1, ho]
      have e : mNext g n p = p + 1 := by simp [mNext, hne, h3, ho0]
      have hn : ∀ d, inSet (fun i => g (p + i)) 1 1 d = (0, false, false) := by
        intro d
        unfold inSet
        have : caret (fun i => g (p + i)) 1 1 = false := by simp [caret]
        rw [this]
        simp [setLoop]
      rw [e]; simp [mNext, mOk, h3, hne, ho, hn]
    · have ho0 : (inSet g n (p + 1) 0).2.2 = true := by rw [(inSet_span g n (p + 1) 0 c).2.1, ho]
      have e : mNext g n p = (inSet g n (p + 1) c).1 := by simp [mNext, hne, h3, ho0, (inSet_span g n (p + 1) 0 c).1]
      have e0 := (inSet_span g n (p + 1) 0 c).1
      have l0 := inSet_local g n p 0 ho0
      have lc := inSet_local g n p c ho
      rw [e0] at l0
      have hgt := (inSet_span g n (p + 1) c c).2.2 ho
      rw [e]
      have hz : (0 : Nat) ≠ (inSet g n (p + 1) c).1 - p := by omega
      constructor
      · unfold mNext
        rw [if_neg hz, if_neg (by simpa using h1), if_neg (by simpa using h2), if_pos (by simpa using h3)]
        show (if (inSet (fun i => g (p + i)) ((inSet g n (p + 1) c).1 - p) 1 0).2.2 = true then _ else _) = _
        rw [l0]; simp
      · unfold mOk
        rw [if_neg hz, if_neg (by simpa using h1), if_neg (by simpa using h2), if_pos (by simpa using h3), if_neg hne, if_neg h1, if_neg h2, if_pos h3, if_pos ho]
        show (if (inSet (fun i => g (p + i)) ((inSet g n (p + 1) c).1 - p) 1 c).2.2 = true then (inSet (fun i => g (p + i)) ((inSet g n (p + 1) c).1 - p) 1 c).2.1 else _) = _
        rw [lc]; simp
  · have e : mNext g n p = p + 1 := by simp [mNext, hne, h1, h2, h3]
    rw [e]; simp [mNext, mOk, h1, h2, h3, hne]

end Go.Proofs.Qxb6602814a.Pl
