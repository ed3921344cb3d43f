/-
  THE PLAIN FUNCTIONS of the seat: what inSet and matchOne compute over a pattern 'g' of 'n' bytes (byte i is 'g i'), and their laws. No Go in sight.
-/
namespace Go.Proofs.Qxb6602814a.Pl

/-- Where the low byte of a range stands: the byte behind a backslash, where there is one. -/
def loAt (g : Nat → Int) (n p : Nat) : Nat := if (g p == 92) = true ∧ p + 1 < n then p + 1 else p
/-- Where the high byte stands, the low one being at q. -/
def hiAt (g : Nat → Int) (n q : Nat) : Nat :=
  if q + 2 < n ∧ (g (q + 1) == 45) = true ∧ (g (q + 2) != 93) = true then (if (g (q + 2) == 92) = true ∧ q + 3 < n then q + 3 else q + 2) else q

def within (lo hi c : Int) : Bool := decide (min lo hi ≤ c) && decide (c ≤ max lo hi)

def setLoop (g : Nat → Int) (n : Nat) (c : Int) (neg : Bool) : Nat → Nat → Bool → Bool → Nat × Bool × Bool
  | 0, _, _, _ => (0, false, false)
  | f + 1, p, inn, first =>
    if p < n then
      if (g p == 93) = true ∧ first = false then (p + 1, inn != neg, true)
      else setLoop g n c neg f (hiAt g n (loAt g n p) + 1) (inn || within (g (loAt g n p)) (g (hiAt g n (loAt g n p))) c) false
    else (0, false, false)

def caret (g : Nat → Int) (n p : Nat) : Bool := decide (p < n) && (g p == 94)

def inSet (g : Nat → Int) (n p : Nat) (c : Int) : Nat × Bool × Bool :=
  setLoop g n c (caret g n p) n (if caret g n p then p + 1 else p) false true

theorem loAt_ge (g : Nat → Int) (n p : Nat) : p ≤ loAt g n p := by unfold loAt; split <;> omega
theorem loAt_lt (g : Nat → Int) (n p : Nat) (h : p < n) : loAt g n p < n := by unfold loAt; split <;> omega
theorem hiAt_ge (g : Nat → Int) (n p : Nat) : p ≤ hiAt g n p := by unfold hiAt; split <;> (try split) <;> omega
theorem hiAt_lt (g : Nat → Int) (n p : Nat) (h : p < n) : hiAt g n p < n := by unfold hiAt; split <;> (try split) <;> omega

/-- Whether and where the set closes does not hang on the byte; a closed one ends behind p, within the pattern. -/
theorem setLoop_span (g : Nat → Int) (n : Nat) (c d : Int) (neg : Bool) : ∀ f p inn inn' first,
    (setLoop g n c neg f p inn first).1 = (setLoop g n d neg f p inn' first).1 ∧ (setLoop g n c neg f p inn first).2.2 = (setLoop g n d neg f p inn' first).2.2 ∧
    ((setLoop g n c neg f p inn first).2.2 = true → p < (setLoop g n c neg f p inn first).1 ∧ (setLoop g n c neg f p inn first).1 ≤ n)
  | 0, p, inn, inn', first => by simp [setLoop]
  | f + 1, p, inn, inn', first => by
    unfold setLoop
    by_cases hp : p < n
    · rw [if_pos hp, if_pos hp]
      by_cases hc : (g p == 93) = true ∧ first = false
      · rw [if_pos hc, if_pos hc]; refine ⟨rfl, rfl, fun _ => ⟨?_, ?_⟩⟩ <;> simp only <;> omega
      · rw [if_neg hc, if_neg hc]
        have h1 := loAt_ge g n p
        have h2 := hiAt_ge g n (loAt g n p)
        obtain ⟨a, b, c'⟩ := setLoop_span g n c d neg f (hiAt g n (loAt g n p) + 1) (inn || within (g (loAt g n p)) (g (hiAt g n (loAt g n p))) c) (inn' || within (g (loAt g n p)) (g (hiAt g n (loAt g n p))) d) false
        refine ⟨a, b, fun h => ?_⟩
        have := c' h
        omega
    · rw [if_neg hp, if_neg hp]; simp

theorem setLoop_no (g : Nat → Int) (n : Nat) (c : Int) (neg : Bool) : ∀ f p inn first,
    (setLoop g n c neg f p inn first).2.2 = false → setLoop g n c neg f p inn first = (0, false, false)
  | 0, p, inn, first => by simp [setLoop]
  | f + 1, p, inn, first => by
    unfold setLoop
    split
    · split
      · simp
      · exact setLoop_no g n c neg f _ _ _
    · simp

/-- Fuel is enough where it reaches the end. -/
theorem setLoop_fuel (g : Nat → Int) (n : Nat) (c : Int) (neg : Bool) : ∀ f f' p inn first, n ≤ f + p → n ≤ f' + p →
    setLoop g n c neg f p inn first = setLoop g n c neg f' p inn first
  | 0, 0, p, inn, first, _, _ => rfl
  | 0, f' + 1, p, inn, first, h, _ => by unfold setLoop; rw [if_neg (by omega)]
  | f + 1, 0, p, inn, first, _, h => by unfold setLoop; rw [if_neg (by omega)]
  | f + 1, f' + 1, p, inn, first, h, h' => by
    unfold setLoop
    by_cases hp : p < n
    · rw [if_pos hp, if_pos hp]
      by_cases hc : (g p == 93) = true ∧ first = false
      · rw [if_pos hc, if_pos hc]
      · rw [if_neg hc, if_neg hc]
        have h1 := loAt_ge g n p
        have h2 := hiAt_ge g n (loAt g n p)
        exact setLoop_fuel g n c neg f f' _ _ _ (by omega) (by omega)
    · rw [if_neg hp, if_neg hp]

theorem inSet_no (g : Nat → Int) (n p : Nat) (c : Int) (h : (inSet g n p c).2.2 = false) : inSet g n p c = (0, false, false) := setLoop_no _ _ _ _ _ _ _ _ h

theorem inSet_span (g : Nat → Int) (n p : Nat) (c d : Int) :
    (inSet g n p c).1 = (inSet g n p d).1 ∧ (inSet g n p c).2.2 = (inSet g n p d).2.2 ∧ ((inSet g n p c).2.2 = true → p < (inSet g n p c).1 ∧ (inSet g n p c).1 ≤ n) := by
  unfold inSet
  obtain ⟨a, b, e⟩ := setLoop_span g n c d (caret g n p) n (if caret g n p then p + 1 else p) false false true
  refine ⟨a, b, fun h => ?_⟩
  have := e h
  have : p ≤ (if caret g n p = true then p + 1 else p) := by split <;> omega
  omega

/-- 'matchOne': where the next element begins, and whether the byte fits. -/
def mNext (g : Nat → Int) (n p : Nat) : Nat :=
  if p = n then p
  else if g p = 63 then p + 1
  else if g p = 92 then (if p + 1 < n then p + 2 else p + 1)
  else if g p = 91 then (if (inSet g n (p + 1) 0).2.2 = true then (inSet g n (p + 1) 0).1 else p + 1)
  else p + 1
def mOk (g : Nat → Int) (n p : Nat) (c : Int) : Bool :=
  if p = n then false
  else if g p = 63 then true
  else if g p = 92 then (if p + 1 < n then g (p + 1) == c else g p == c)
  else if g p = 91 then (if (inSet g n (p + 1) c).2.2 = true then (inSet g n (p + 1) c).2.1 else g p == c)
  else g p == c

theorem mNext_end (g : Nat → Int) (n : Nat) : mNext g n n = n := by simp [mNext]
theorem mOk_end (g : Nat → Int) (n : Nat) (c : Int) : mOk g n n c = false := by simp [mOk]
theorem mNext_in (g : Nat → Int) (n p : Nat) (h : p < n) : p < mNext g n p ∧ mNext g n p ≤ n := by
  unfold mNext
  rw [if_neg (by omega)]
  split
  · omega
  · split
    · split <;> omega
    · split
      · split
        · rename_i h1; have := (inSet_span g n (p + 1) 0 0).2.2 h1; omega
        · omega
      · omega
theorem mNext_le (g : Nat → Int) (n p : Nat) (h : p ≤ n) : p ≤ mNext g n p ∧ mNext g n p ≤ n := by
  by_cases e : p = n
  · subst e; rw [mNext_end]; omega
  · have := mNext_in g n p (by omega); omega

end Go.Proofs.Qxb6602814a.Pl
