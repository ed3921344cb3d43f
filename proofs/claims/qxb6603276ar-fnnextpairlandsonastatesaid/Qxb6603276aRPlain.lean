/-
  THE PLAIN FUNCTIONS of the seat: variants, discount, nextPair over natural numbers; their laws, by trying every state. No Go in sight.
-/
namespace Go.Proofs.Qxb6603276aR.Pl

def bnd (b : Nat) : Nat := if b = 0 then 20 else if b = 1 then 48 else if b = 2 then 15 else if b = 3 then 8 else if b = 4 then 6 else 5

/-- variants of a pair with b ≤ a. -/
def vge (a b : Nat) : Nat := if 6 ≤ b ∨ bnd b < a then 0 else if 0 < b ∧ a + b ≤ 17 then 2 else 1
def var (a b : Nat) : Nat := if a < b then vge b a else vge a b

def b2n (b : Bool) : Nat := if b then 1 else 0
def disc (n : Nat) : Nat := b2n (decide (1 ≤ n)) + b2n (decide (2 ≤ n)) + b2n (decide (3 ≤ n)) + b2n (decide (4 ≤ n)) + b2n (decide (5 ≤ n)) + b2n (decide (7 ≤ n)) + b2n (decide (8 ≤ n))

/-- One round of bringing a pair down. -/
def down (a b : Nat) : Nat × Nat := if b < 2 then (a - 1, b) else ((a * (b - 1) + b / 2) / b, b - 1)
def red : Nat → Nat → Nat → Nat × Nat
  | 0, a, b => (a, b)
  | f + 1, a, b => if var a b = 0 then red f (down a b).1 (down a b).2 else (a, b)

def npge (a b y : Nat) : Nat × Nat := if y = 1 then red (64 * (b + 1) + disc a) (disc a) (b + 1) else red (64 * disc b + (a + 1)) (a + 1) (disc b)
def np (a b y : Nat) : Nat × Nat := if a < b then ((npge b a (1 - y)).2, (npge b a (1 - y)).1) else npge a b y

def it : Nat → Nat → Nat → Nat → Nat × Nat
  | 0, a, b, _ => (a, b)
  | k + 1, a, b, y => it k (np a b y).1 (np a b y).2 y

theorem vge_le (a b : Nat) (h : vge a b ≠ 0) (_hab : b ≤ a) : a ≤ 48 ∧ b ≤ 5 := by
  unfold vge at h
  split at h
  · exact absurd rfl h
  · rename_i hh
    have h1 : ¬ 6 ≤ b := fun x => hh (.inl x)
    have h2 : ¬ bnd b < a := fun x => hh (.inr x)
    have h3 : bnd b ≤ 48 := by
      unfold bnd
      repeat' split
      all_goals omega
    omega
theorem var_le (a b : Nat) (h : var a b ≠ 0) : a ≤ 48 ∧ b ≤ 48 ∧ (a ≤ 5 ∨ b ≤ 5) := by
  unfold var at h
  split at h
  · have := vge_le b a h (by omega); omega
  · have := vge_le a b h (by omega); omega

theorem disc_le (n : Nat) : disc n ≤ 7 ∧ disc n ≤ n := by
  unfold disc b2n
  simp only [decide_eq_true_eq]
  repeat' split
  all_goals omega

/-- What one step from a state comes to. -/
def lands (a b y : Nat) : Bool :=
  decide ((np a b y).1 + (np a b y).2 < 50) && (decide (var (np a b y).1 (np a b y).2 ≠ 0) &&
    (if y = 0 then decide (1 ≤ (np a b y).1) && decide ((np a b y).1 ≤ a + 1) && decide ((np a b y).2 ≤ b) else decide (1 ≤ (np a b y).2) && decide ((np a b y).2 ≤ b + 1) && decide ((np a b y).1 ≤ a)))

def target (a b y : Nat) : Nat × Nat := if y = 0 then (if 0 < b then (48, 1) else (20, 0)) else (if 0 < a then (1, 48) else (0, 20))
def settles (a b y : Nat) : Bool := decide (it 64 a b y = target a b y)

theorem lands_all : ∀ a, a < 49 → ∀ b, b < 49 → ∀ y, y < 2 → var a b ≠ 0 → lands a b y = true := by decide +kernel

theorem lands_at (a b y : Nat) (hy : y < 2) (h : var a b ≠ 0) : (np a b y).1 + (np a b y).2 < 50 ∧ var (np a b y).1 (np a b y).2 ≠ 0 ∧
    (y = 0 → 1 ≤ (np a b y).1 ∧ (np a b y).1 ≤ a + 1 ∧ (np a b y).2 ≤ b) ∧ (y = 1 → 1 ≤ (np a b y).2 ∧ (np a b y).2 ≤ b + 1 ∧ (np a b y).1 ≤ a) := by
  have hl := var_le a b h
  have := lands_all a (by omega) b (by omega) y hy h
  unfold lands at this
  simp only [Bool.and_eq_true, decide_eq_true_eq] at this
  refine ⟨this.1, this.2.1, fun e => ?_, fun e => ?_⟩
  · have h2 := this.2.2
    rw [if_pos e] at h2
    simp only [Bool.and_eq_true, decide_eq_true_eq] at h2
    exact ⟨h2.1.1, h2.1.2, h2.2⟩
  · have h2 := this.2.2
    rw [if_neg (by omega)] at h2
    simp only [Bool.and_eq_true, decide_eq_true_eq] at h2
    exact ⟨h2.1.1, h2.1.2, h2.2⟩

theorem it_fix (a b y : Nat) (h : np a b y = (a, b)) : ∀ k, it k a b y = (a, b)
  | 0 => rfl
  | k + 1 => by unfold it; rw [h]; exact it_fix a b y h k
theorem it_add (y : Nat) : ∀ k l a b, it (k + l) a b y = it l (it k a b y).1 (it k a b y).2 y
  | 0, l, a, b => by rw [Nat.zero_add]; rfl
  | k + 1, l, a, b => by
    have e : k + 1 + l = (k + l) + 1 := by omega
    rw [e]
    show it (k + l) (np a b y).1 (np a b y).2 y = _
    rw [it_add y k l]
    rfl

theorem target_fix (a b y : Nat) (hy : y < 2) : np (target a b y).1 (target a b y).2 y = target a b y := by
  unfold target
  have : y = 0 ∨ y = 1 := by omega
  rcases this with rfl | rfl
  · rw [if_pos rfl]
    split <;> decide +kernel
  · rw [if_neg (by omega)]
    split <;> decide +kernel
end Go.Proofs.Qxb6603276aR.Pl
