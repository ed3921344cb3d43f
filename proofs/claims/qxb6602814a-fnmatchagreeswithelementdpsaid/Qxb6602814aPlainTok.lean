/-
  THE TOKEN MODEL of a set, plainly: the tokens of a pattern, where they close, what they list; and that inSet's own loop answers the same. No Go in sight.
-/
import Derived.Test.Qxb6602814aPlain
namespace Go.Proofs.Qxb6602814a.Pl

/-- A token: its byte, whether it is plain (no backslash ahead), where it ends. -/
abbrev Tok := Int × Bool × Nat

def toks (g : Nat → Int) (n : Nat) : Nat → Nat → List Tok
  | 0, _ => []
  | f + 1, q => if q < n then (if (g q == 92) = true ∧ q + 1 < n then (g (q + 1), false, q + 2) :: toks g n f (q + 2) else (g q, true, q + 1) :: toks g n f (q + 1)) else []

def closes (t : Tok) : Bool := t.2.1 && t.1 == 93
def dash (t : Tok) : Bool := t.2.1 && t.1 == 45

def setT (c : Int) (neg : Bool) : List Tok → Bool → Bool → Nat × Bool × Bool
  | [], _, _ => (0, false, false)
  | [t], inn, first => if closes t = true ∧ first = false then (t.2.2, inn != neg, true) else (0, false, false)
  | [t, a], inn, first => if closes t = true ∧ first = false then (t.2.2, inn != neg, true) else setT c neg [a] (inn || within t.1 t.1 c) false
  | t :: a :: b :: r, inn, first =>
    if closes t = true ∧ first = false then (t.2.2, inn != neg, true)
    else if dash a = true ∧ closes b = false then setT c neg r (inn || within t.1 b.1 c) false
    else setT c neg (a :: b :: r) (inn || within t.1 t.1 c) false

def memL (c : Int) : List Tok → Bool → Bool
  | [], inn => inn
  | [t], inn => inn || within t.1 t.1 c
  | [t, a], inn => memL c [a] (inn || within t.1 t.1 c)
  | t :: a :: b :: r, inn => if dash a = true then memL c r (inn || within t.1 b.1 c) else memL c (a :: b :: r) (inn || within t.1 t.1 c)

theorem toks_fuel (g : Nat → Int) (n : Nat) : ∀ f f' q, n ≤ f + q → n ≤ f' + q → toks g n f q = toks g n f' q
  | 0, 0, q, _, _ => rfl
  | 0, f' + 1, q, h, _ => by unfold toks; rw [if_neg (by omega)]
  | f + 1, 0, q, _, h => by unfold toks; rw [if_neg (by omega)]
  | f + 1, f' + 1, q, h, h' => by
    unfold toks
    split
    · split
      · rw [toks_fuel g n f f' (q + 2) (by omega) (by omega)]
      · rw [toks_fuel g n f f' (q + 1) (by omega) (by omega)]
    · rfl

theorem toks_len (g : Nat → Int) (n : Nat) : ∀ f q, (toks g n f q).length ≤ n - q
  | 0, q => by simp [toks]
  | f + 1, q => by
    unfold toks
    split
    · split
      · have := toks_len g n f (q + 2); simp only [List.length_cons]; omega
      · have := toks_len g n f (q + 1); simp only [List.length_cons]; omega
    · simp

theorem toks_rng (g : Nat → Int) (n : Nat) (hg : ∀ i, 0 ≤ g i ∧ g i ≤ 255) : ∀ f q, ∀ t ∈ toks g n f q, 0 ≤ t.1 ∧ t.1 ≤ 255
  | 0, q => by simp [toks]
  | f + 1, q => by
    intro t ht
    unfold toks at ht
    split at ht
    · split at ht
      · rcases List.mem_cons.1 ht with h | h
        · subst h; exact hg _
        · exact toks_rng g n hg f _ t h
      · rcases List.mem_cons.1 ht with h | h
        · subst h; exact hg _
        · exact toks_rng g n hg f _ t h
    · simp at ht
theorem toks_rng_at (g : Nat → Int) (n : Nat) (hg : ∀ i, 0 ≤ g i ∧ g i ≤ 255) (f q i : Nat) : 0 ≤ ((toks g n f q).getD i (0, false, 0)).1 ∧ ((toks g n f q).getD i (0, false, 0)).1 ≤ 255 := by
  by_cases h : i < (toks g n f q).length
  · have e : (toks g n f q).getD i (0, false, 0) = (toks g n f q)[i] := by simp [h]
    rw [e]; exact toks_rng g n hg f q _ (List.getElem_mem h)
  · have e : (toks g n f q).getD i (0, false, 0) = (0, false, 0) := by simp [h]
    rw [e]; simp

/-- A token at q: its byte stands at 'loAt q', and the next one begins behind that. -/
theorem toks_at (g : Nat → Int) (n f q : Nat) (h : q < n) (hf : n ≤ f + q) :
    ∃ pl, toks g n f q = (g (loAt g n q), pl, loAt g n q + 1) :: toks g n f (loAt g n q + 1) ∧ (pl = true → loAt g n q = q) ∧ (pl = false → g q = 92) := by
  match f, hf with
  | 0, hf => omega
  | f + 1, hf =>
    by_cases hc : (g q == 92) = true ∧ q + 1 < n
    · refine ⟨false, ?_, by simp, by intro _; simpa using hc.1⟩
      have e : loAt g n q = q + 1 := by unfold loAt; rw [if_pos hc]
      rw [e]
      conv => lhs; unfold toks
      rw [if_pos h, if_pos hc, toks_fuel g n f (f + 1) (q + 2) (by omega) (by omega)]
    · have e : loAt g n q = q := by unfold loAt; rw [if_neg hc]
      refine ⟨true, ?_, fun _ => e, by simp⟩
      rw [e]
      conv => lhs; unfold toks
      rw [if_pos h, if_neg hc, toks_fuel g n f (f + 1) (q + 1) (by omega) (by omega)]

theorem toks_end (g : Nat → Int) (n f q : Nat) (h : n ≤ q) : toks g n f q = [] := by
  cases f with
  | zero => rfl
  | succ f => unfold toks; rw [if_neg (by omega)]

theorem closes_at (g : Nat → Int) (n q : Nat) (pl : Bool) (h1 : pl = true → loAt g n q = q) (h2 : pl = false → g q = 92) :
    closes (g (loAt g n q), pl, loAt g n q + 1) = (g q == 93) := by
  cases pl with
  | true => simp [closes, h1 rfl]
  | false => simp [closes, h2 rfl]
theorem dash_at (g : Nat → Int) (n q : Nat) (pl : Bool) (h1 : pl = true → loAt g n q = q) (h2 : pl = false → g q = 92) :
    dash (g (loAt g n q), pl, loAt g n q + 1) = (g q == 45) := by
  cases pl with
  | true => simp [dash, h1 rfl]
  | false => simp [dash, h2 rfl]

theorem loAt_plain (g : Nat → Int) (n q : Nat) (h : (g q == 92) = false) : loAt g n q = q := by
  unfold loAt; rw [if_neg (by simp [h])]

theorem hiAt_yes (g : Nat → Int) (n q : Nat) (h1 : q + 2 < n) (h2 : (g (q + 1) == 45) = true) (h3 : (g (q + 2) == 93) = false) : hiAt g n q = loAt g n (q + 2) := by
  unfold hiAt loAt
  rw [if_pos ⟨h1, h2, by simpa using h3⟩]
theorem hiAt_no (g : Nat → Int) (n q : Nat) (h : ¬ (q + 2 < n ∧ (g (q + 1) == 45) = true ∧ (g (q + 2) == 93) = false)) : hiAt g n q = q := by
  unfold hiAt
  rw [if_neg (fun ⟨a, b, c⟩ => h ⟨a, b, by simpa using c⟩)]

/-- inSet's loop walks the tokens. -/
theorem setLoop_toks (g : Nat → Int) (n : Nat) (c : Int) (neg : Bool) : ∀ f p inn first, n ≤ f + p →
    setLoop g n c neg f p inn first = setT c neg (toks g n n p) inn first
  | 0, p, inn, first, h => by rw [toks_end g n n p (by omega)]; rfl
  | f + 1, p, inn, first, h => by
    by_cases hp : p < n
    · obtain ⟨pl, et, h1, h2⟩ := toks_at g n n p hp (by omega)
      have hcl := closes_at g n p pl h1 h2
      have hge := loAt_ge g n p
      have hlt := loAt_lt g n p hp
      unfold setLoop
      rw [if_pos hp, et]
      generalize hq : loAt g n p = q at *
      have ih := fun (q' : Nat) (hq' : p < q') (i : Bool) => setLoop_toks g n c neg f q' i false (by omega)
      by_cases hfirst : (g p == 93) = true ∧ first = false
      · rw [if_pos hfirst]
        have eqp : q = p := by rw [← hq]; exact loAt_plain g n p (by have := hfirst.1; simp at this ⊢; omega)
        rw [← hcl] at hfirst
        have eret : (p + 1, inn != neg, true) = ((g q, pl, q + 1).snd.snd, inn != neg, true) := by rw [eqp]
        rw [eret]
        cases htl : toks g n n (q + 1) with
        | nil => unfold setT; rw [if_pos hfirst]
        | cons a l => cases l with
          | nil => unfold setT; rw [if_pos hfirst]
          | cons b r => unfold setT; rw [if_pos hfirst]
      · rw [if_neg hfirst, ← hcl] at *
        -- the token behind
        by_cases ha : q + 1 < n
        · obtain ⟨pa, ea, a1, a2⟩ := toks_at g n n (q + 1) ha (by omega)
          have had := dash_at g n (q + 1) pa a1 a2
          by_cases hb : loAt g n (q + 1) + 1 < n
          · obtain ⟨pb, eb, b1, b2⟩ := toks_at g n n (loAt g n (q + 1) + 1) hb (by omega)
            have hbc := closes_at g n _ pb b1 b2
            by_cases hd : (g (q + 1) == 45) = true
            · have e1 : loAt g n (q + 1) = q + 1 := loAt_plain g n (q + 1) (by simp at hd ⊢; omega)
              rw [e1] at ea eb b1 b2 hbc had hb
              by_cases hbr : (g (q + 2) == 93) = false
              · rw [hiAt_yes g n q hb hd hbr]
                have hbg := loAt_ge g n (q + 2)
                rw [ih _ (by omega), ea, eb]
                conv => rhs; unfold setT
                rw [if_neg hfirst, if_pos ⟨by rw [had]; exact hd, by rw [hbc]; exact hbr⟩]
              · rw [hiAt_no g n q (by intro hh; exact hbr hh.2.2), ih _ (by omega), ea, eb]
                conv => rhs; unfold setT
                rw [if_neg hfirst, if_neg (by rw [hbc]; intro hh; exact hbr hh.2)]
            · rw [hiAt_no g n q (by intro hh; exact hd hh.2.1), ih _ (by omega), ea, eb]
              conv => rhs; unfold setT
              rw [if_neg hfirst, if_neg (by rw [had]; intro hh; exact hd hh.1)]
          · have ge1 := loAt_ge g n (q + 1)
            have en := toks_end g n n (loAt g n (q + 1) + 1) (by omega)
            have hno : ¬ (q + 2 < n ∧ (g (q + 1) == 45) = true ∧ (g (q + 2) == 93) = false) := by
              intro hh
              have := loAt_plain g n (q + 1) (by have := hh.2.1; simp at this ⊢; omega)
              omega
            rw [hiAt_no g n q hno, ih _ (by omega), ea, en]
            conv => rhs; unfold setT
            rw [if_neg hfirst]
        · rw [hiAt_no g n q (by omega), ih _ (by omega), toks_end g n n (q + 1) (by omega)]
          unfold setT
          rw [if_neg hfirst]
    · unfold setLoop
      rw [if_neg hp, toks_end g n n p (by omega)]
      rfl

/-- The first token at or behind 'from' that closes is the k-th: what setT answers. -/
theorem setT_yes (c : Int) (neg : Bool) (d : Tok) : ∀ (m : Nat) (T : List Tok) (inn first : Bool) (k : Nat), T.length ≤ m → k < T.length → closes (T.getD k d) = true → (first = true → 1 ≤ k) →
    (∀ j, (first = true → 1 ≤ j) → j < k → closes (T.getD j d) = false) → setT c neg T inn first = ((T.getD k d).2.2, memL c (T.take k) inn != neg, true)
  | 0, T, inn, first, k, hm, hk, _, _, _ => by omega
  | m + 1, [], inn, first, k, hm, hk, _, _, _ => by simp at hk
  | m + 1, [t], inn, first, k, hm, hk, hc, hf, hn => by
    have e : k = 0 := by simpa using hk
    subst e
    have e2 : first = false := by cases first with | false => rfl | true => have := hf rfl; omega
    subst e2
    simp only [List.getD_cons_zero] at hc
    unfold setT
    rw [if_pos ⟨hc, rfl⟩]
    simp [memL]
  | m + 1, [t, a], inn, first, k, hm, hk, hc, hf, hn => by
    match k with
    | 0 =>
      have e2 : first = false := by cases first with | false => rfl | true => have := hf rfl; omega
      subst e2
      simp only [List.getD_cons_zero] at hc
      unfold setT
      rw [if_pos ⟨hc, rfl⟩]
      simp [memL]
    | 1 =>
      have hnc : ¬ (closes t = true ∧ first = false) := by
        intro hh
        have := hn 0 (by simp [hh.2]) (by omega)
        simp [hh.1] at this
      have ih := setT_yes c neg d m [a] (inn || within t.1 t.1 c) false 0 (by simp at hm ⊢; omega) (by simp) (by simpa using hc) (by simp) (by intros; omega)
      unfold setT
      rw [if_neg hnc, ih]
      simp [memL]
    | k + 2 => simp at hk; omega
  | m + 1, t :: a :: b :: r, inn, first, k, hm, hk, hc, hf, hn => by
    match k with
    | 0 =>
      have e2 : first = false := by cases first with | false => rfl | true => have := hf rfl; omega
      subst e2
      simp only [List.getD_cons_zero] at hc
      unfold setT
      rw [if_pos ⟨hc, rfl⟩]
      simp [memL]
    | k + 1 =>
      have hnc : ¬ (closes t = true ∧ first = false) := by
        intro hh
        have := hn 0 (by simp [hh.2]) (by omega)
        simp [hh.1] at this
      by_cases hd : dash a = true ∧ closes b = false
      · have h1 : k ≠ 0 := by
          intro e; subst e
          have hda := hd.1
          simp [closes, dash] at hc hda
          omega
        have h2 : k ≠ 1 := by
          intro e; subst e
          simp at hc
          rw [hd.2] at hc
          simp at hc
        obtain ⟨j, rfl⟩ : ∃ j, k = j + 2 := ⟨k - 2, by omega⟩
        have ih := setT_yes c neg d m r (inn || within t.1 b.1 c) false j (by simp at hm ⊢; omega) (by simp at hk; omega) (by simpa using hc) (by simp)
          (by intro i _ hi; simpa using hn (i + 3) (by intro _; omega) (by omega))
        unfold setT
        rw [if_neg hnc, if_pos hd, ih]
        simp [memL, hd.1]
      · have ih := setT_yes c neg d m (a :: b :: r) (inn || within t.1 t.1 c) false k (by simp at hm ⊢; omega) (by simp at hk ⊢; omega) (by simpa using hc) (by simp)
          (by intro i _ hi; simpa using hn (i + 1) (by intro _; omega) (by omega))
        unfold setT
        rw [if_neg hnc, if_neg hd, ih]
        refine Prod.ext (by simp) (Prod.ext ?_ rfl)
        show (memL c ((a :: b :: r).take k) _ != neg) = (memL c ((t :: a :: b :: r).take (k + 1)) _ != neg)
        match k with
        | 0 => simp [memL]
        | 1 => simp [memL]
        | k + 2 =>
          have hcb : closes b = false := by simpa using hn 2 (by intro _; omega) (by omega)
          have hda : ¬ dash a = true := fun hh => hd ⟨hh, hcb⟩
          simp [memL, hda]

theorem setT_no (c : Int) (neg : Bool) (d : Tok) : ∀ (m : Nat) (T : List Tok) (inn first : Bool), T.length ≤ m →
    (∀ j, (first = true → 1 ≤ j) → j < T.length → closes (T.getD j d) = false) → setT c neg T inn first = (0, false, false)
  | _, [], inn, first, _, _ => by simp [setT]
  | 0, t :: T, inn, first, h, _ => by simp at h
  | m + 1, [t], inn, first, hm, hn => by
    have hnc : ¬ (closes t = true ∧ first = false) := by
      intro hh
      have := hn 0 (by simp [hh.2]) (by simp)
      simp [hh.1] at this
    unfold setT
    rw [if_neg hnc]
  | m + 1, [t, a], inn, first, hm, hn => by
    have hnc : ¬ (closes t = true ∧ first = false) := by
      intro hh
      have := hn 0 (by simp [hh.2]) (by simp)
      simp [hh.1] at this
    unfold setT
    rw [if_neg hnc]
    exact setT_no c neg d m [a] _ false (by simp at hm ⊢; omega) (by intro i _ hi; simpa using hn (i + 1) (by intro _; omega) (by simp at hi ⊢; omega))
  | m + 1, t :: a :: b :: r, inn, first, hm, hn => by
    have hnc : ¬ (closes t = true ∧ first = false) := by
      intro hh
      have := hn 0 (by simp [hh.2]) (by simp)
      simp [hh.1] at this
    unfold setT
    rw [if_neg hnc]
    split
    · exact setT_no c neg d m r _ false (by simp at hm ⊢; omega) (by intro i _ hi; simpa using hn (i + 3) (by intro _; omega) (by simp at hi ⊢; omega))
    · exact setT_no c neg d m (a :: b :: r) _ false (by simp at hm ⊢; omega) (by intro i _ hi; simpa using hn (i + 1) (by intro _; omega) (by simp at hi ⊢; omega))

theorem drop_take_cons (L : List Tok) (k j : Nat) (hk : k ≤ L.length) (hj : j < k) : (L.take k).drop j = L.getD j (0, false, 0) :: (L.take k).drop (j + 1) := by
  rw [List.drop_eq_getElem_cons (by simp; omega)]
  congr 1
  have : j < L.length := by omega
  simp [this]

theorem memL_rng (c : Int) (L : List Tok) (k j : Nat) (inn : Bool) (hk : k ≤ L.length) (hj : j + 2 < k) (hd : dash (L.getD (j + 1) (0, false, 0)) = true) :
    memL c ((L.take k).drop j) inn = memL c ((L.take k).drop (j + 3)) (inn || within (L.getD j (0, false, 0)).1 (L.getD (j + 2) (0, false, 0)).1 c) := by
  rw [drop_take_cons L k j hk (by omega), drop_take_cons L k (j + 1) hk (by omega), drop_take_cons L k (j + 2) hk (by omega)]
  conv => lhs; unfold memL
  rw [if_pos hd]

theorem memL_one (c : Int) (L : List Tok) (k j : Nat) (inn : Bool) (hk : k ≤ L.length) (hj : j < k) (hd : ¬ (j + 2 < k ∧ dash (L.getD (j + 1) (0, false, 0)) = true)) :
    memL c ((L.take k).drop j) inn = memL c ((L.take k).drop (j + 1)) (inn || within (L.getD j (0, false, 0)).1 (L.getD j (0, false, 0)).1 c) := by
  rw [drop_take_cons L k j hk (by omega)]
  by_cases h1 : j + 1 < k
  · rw [drop_take_cons L k (j + 1) hk h1]
    by_cases h2 : j + 2 < k
    · rw [drop_take_cons L k (j + 2) hk h2]
      conv => lhs; unfold memL
      rw [if_neg (fun hh => hd ⟨h2, hh⟩)]
    · rw [List.drop_of_length_le (i := j + 1 + 1) (by simp; omega)]
      conv => lhs; unfold memL
  · rw [List.drop_of_length_le (i := j + 1) (by simp; omega)]
    simp [memL]

theorem memL_end (c : Int) (L : List Tok) (k : Nat) (inn : Bool) : memL c ((L.take k).drop k) inn = inn := by
  rw [List.drop_of_length_le (by simp; omega)]; simp [memL]

theorem within_nat (a b lo hi c : Nat) (h1 : (a : Int) = min (lo : Int) hi) (h2 : (b : Int) = max (lo : Int) hi) : (decide (a ≤ c) && decide (c < b + 1)) = within lo hi c := by
  unfold within
  rw [← h1, ← h2]
  congr 1
  · simp
  · simp; omega

end Go.Proofs.Qxb6602814a.Pl
