/-
  PARTS of the walk of setByTokens: three slices of the call's own, grown side by side.
-/
import Derived.Test.Qxb6602814aWalkB
import Derived.Test.Qxb6602814aPlainTok
namespace Go.Proofs.Qxb6602814a
open Go.RowKit

theorem Try.info4 : (Try.prog.info? 4).map (fun i => (i.zero, i.size, i.bytes)) = some (some (.bool false), 1, 1) := by kernel_rfl
theorem Try.info3 : (Try.prog.info? 3).map (fun i => (i.zero, i.size, i.bytes)) = some (some (.int .i64 0), 1, 8) := by kernel_rfl

/-- Two owned rows of different element types are apart. -/
theorem owns_apart {w : World} {B e e' n n' : Nat} {v v' : Value} {xs xs' : List Value} (h : w.ownsRow B e 1 v n xs) (h' : w.ownsRow B e' 1 v' n' xs') (hne : e ≠ e') : v.ownBlock = none ∨ v.ownBlock ≠ v'.ownBlock := by
  rcases h.2 with ⟨rfl, _⟩ | ⟨g, cap, cur, rfl, _, hh, _⟩
  · exact .inl rfl
  rcases h'.2 with ⟨rfl, _⟩ | ⟨g', cap', cur', rfl, _, hh', _⟩
  · exact .inr (by simp [Value.ownBlock])
  refine .inr fun e0 => ?_
  simp [Value.ownBlock] at e0
  subst e0
  rw [hh] at hh'
  simp at hh'
  exact hne hh'.2

theorem owns_row {w : World} {B e n : Nat} {v : Value} {xs : List Value} (h : w.ownsRow B e 1 v n xs) : ∀ k, v.ownBlock = some k → B ≤ k := fun k hk => (h.lt k hk).1

/-- 'append(v, x)', v the call's own, of one-cell elements. -/
theorem wp_app {ops : Array Oper} {rest : List Oper} {o : Oper} {a : Act} {Q : Exit → Act → World → Prop} (w : World) (hgd : o.guard = none) (s x : Operand) (t : TypeId)
    (ho : o.op = .call { callee := .builtin .append, args := #[s, x], argTypes := #[t, t] })
    (B e : Nat) (z : Value) (bytes : Nat) (ht : Try.prog.underlying t = some (.slice e)) (hinfo : (Try.prog.info? e).map (fun i => (i.zero, i.size, i.bytes)) = some (some z, 1, bytes)) (hzs : z.cells.size = 1) (hby : bytes ≤ 8)
    (v : Value) (n : Nat) (xs : List Value) (hs : a.eval s = v) (hown : w.ownsRow B e 1 v n xs)
    (r : Nat) (u : Value) (hx : a.eval x = .slice (some ⟨r, 0, none⟩) 1 1) (hc : w.cell? ⟨r, 0, none⟩ = some u) (hu : u.oneCell' = true) (hn : n ≤ 65536) (hB : B ≤ w.heap.size)
    (h : ∀ v' w', w'.ownsRow B e 1 v' (n + 1) (xs ++ [u]) → w.grownBy w' v.ownBlock → wpList Try.prog ops Q rest (a.put o.dst v') w') : wpList Try.prog ops Q (o :: rest) a w := by
  obtain ⟨i0, hi, hz0, hz1, hz2⟩ := info_parts hinfo
  refine wpList_append_own w hgd s x t ho B e i0 z 1 bytes ht hi hz0 hz1 hz2 hzs (by omega) v n xs hs hown ⟨r, 0, none⟩ 1 1 [u] hx rfl ?_ ?_ ?_ ?_ hB (fun v' w' h1 h2 _ => h v' w' h1 h2)
  · intro j y hj
    match j, hj with
    | 0, hj => simp at hj; subst hj; simpa [Addr.add] using hc
    | j + 1, hj => simp at hj
  · intro y hy; simp at hy; subst hy; exact hu
  · unfold maxLen; omega
  · have : (n + 1) * bytes ≤ 65537 * 8 := Nat.mul_le_mul (by omega) hby
    omega

/-- The three slices that pass one gathers, as the tokens L. -/
structure Three (w : World) (B : Nat) (v p e : Value) (L : List Pl.Tok) : Prop where
  vals : w.ownsRow B 5 1 v L.length (L.map fun t => .int .u8 t.1)
  plain : w.ownsRow B 4 1 p L.length (L.map fun t => .bool t.2.1)
  ends : w.ownsRow B 3 1 e L.length (L.map fun t => .int .i64 (t.2.2 : Int))

theorem Three.nil (w : World) (B : Nat) : Three w B (.slice none 0 0) (.slice none 0 0) (.slice none 0 0) [] := ⟨World.ownsRow_nil _ _ _ _, World.ownsRow_nil _ _ _ _, World.ownsRow_nil _ _ _ _⟩

theorem Three.p1 {wr w1 : World} {B : Nat} {v p e : Value} {L : List Pl.Tok} {o1 : Obj} (h : Three wr B v p e L) (g1 : (wr.alloc o1).grownBy w1 v.ownBlock) :
    w1.ownsRow B 4 1 p L.length (L.map fun t => .bool t.2.1) ∧ w1.ownsRow B 3 1 e L.length (L.map fun t => .int .i64 (t.2.2 : Int)) :=
  ⟨(h.plain.alloc o1).kept g1 (owns_apart (h.plain.alloc o1) (h.vals.alloc o1) (by decide)), (h.ends.alloc o1).kept g1 (owns_apart (h.ends.alloc o1) (h.vals.alloc o1) (by decide))⟩

theorem Three.snoc {wr w1 w2 w3 : World} {B : Nat} {v p e v' p' e' : Value} {L : List Pl.Tok} {t : Pl.Tok} {o1 o2 o3 : Obj} (h : Three wr B v p e L)
    (h1 : w1.ownsRow B 5 1 v' (L.length + 1) ((L.map fun t => Value.int .u8 t.1) ++ [.int .u8 t.1])) (g1 : (wr.alloc o1).grownBy w1 v.ownBlock)
    (h2 : w2.ownsRow B 4 1 p' (L.length + 1) ((L.map fun t => Value.bool t.2.1) ++ [.bool t.2.1])) (g2 : (w1.alloc o2).grownBy w2 p.ownBlock)
    (h3 : w3.ownsRow B 3 1 e' (L.length + 1) ((L.map fun t => Value.int .i64 (t.2.2 : Int)) ++ [.int .i64 (t.2.2 : Int)])) (g3 : (w2.alloc o3).grownBy w3 e.ownBlock) :
    Three w3 B v' p' e' (L ++ [t]) := by
  obtain ⟨q1, q2⟩ := h.p1 g1
  have e2 : w2.ownsRow B 3 1 e L.length (L.map fun t => .int .i64 (t.2.2 : Int)) := (q2.alloc o2).kept g2 (owns_apart (q2.alloc o2) (q1.alloc o2) (by decide))
  have v2 := (h1.alloc o2).kept g2 (owns_apart (h1.alloc o2) (q1.alloc o2) (by decide))
  have v3 := (v2.alloc o3).kept g3 (owns_apart (v2.alloc o3) (e2.alloc o3) (by decide))
  have p3 := (h2.alloc o3).kept g3 (owns_apart (h2.alloc o3) (e2.alloc o3) (by decide))
  exact ⟨by simpa using v3, by simpa using p3, by simpa using h3⟩

theorem Three.e2 {wr w1 w2 : World} {B : Nat} {v p e : Value} {L : List Pl.Tok} {o1 o2 : Obj} (h : Three wr B v p e L) (g1 : (wr.alloc o1).grownBy w1 v.ownBlock) (g2 : (w1.alloc o2).grownBy w2 p.ownBlock) :
    w2.ownsRow B 3 1 e L.length (L.map fun t => .int .i64 (t.2.2 : Int)) :=
  ((h.p1 g1).2.alloc o2).kept g2 (owns_apart ((h.p1 g1).2.alloc o2) ((h.p1 g1).1.alloc o2) (by decide))

theorem Three.below {w wr w1 w2 w3 : World} {B : Nat} {v p e : Value} {L : List Pl.Tok} {o1 o2 o3 : Obj} (h : Three wr B v p e L) (hb : Below B w wr) (hB : B ≤ wr.heap.size)
    (g1 : (wr.alloc o1).grownBy w1 v.ownBlock) (g2 : (w1.alloc o2).grownBy w2 p.ownBlock) (g3 : (w2.alloc o3).grownBy w3 e.ownBlock) : Below B w w3 ∧ B ≤ w3.heap.size := by
  have s1 := g1.size
  have s2 := g2.size
  have s3 := g3.size
  simp at s1 s2 s3
  refine ⟨?_, by omega⟩
  refine (((((hb.alloc hB o1).grown g1 (by simp; omega) (owns_row h.vals)).alloc (by omega) o2).grown g2 (by simp; omega) (owns_row (h.p1 g1).1)).alloc (by omega) o3).grown g3 (by simp; omega) (owns_row (h.e2 g1 g2))

/-- A slice value that owns n cells. -/
theorem owns_form {w : World} {B e n : Nat} {v : Value} {xs : List Value} (h : w.ownsRow B e 1 v n xs) (hn : 0 < n) : ∃ g cap, v = .slice (some ⟨g, 0, none⟩) n cap ∧ B ≤ g ∧ g < w.heap.size ∧ ∀ i, i < n → w.cell? ⟨g, i, none⟩ = xs[i]? := by
  rcases h.2 with ⟨_, h0⟩ | ⟨g, cap, cur, rfl, hb, hh, _⟩
  · omega
  · exact ⟨g, cap, rfl, hb, (h.lt g rfl).2, fun i hi => h.cellAt i (by omega)⟩
theorem owns_none {w : World} {B e : Nat} {v : Value} {xs : List Value} {n : Nat} (h : w.ownsRow B e 1 v n xs) : ∃ ao cap, v = .slice ao n cap := by
  rcases h.2 with ⟨rfl, rfl⟩ | ⟨g, cap, cur, rfl, _⟩
  · exact ⟨none, 0, rfl⟩
  · exact ⟨_, cap, rfl⟩

/-! ### the table of 256 -/
def member0 : Array Value := Array.replicate 256 (.bool false)
theorem zero28 (w : World) : (zeroValue 28).run Try.prog w = .ok (.agg member0) w := by kernel_rfl
theorem member0_at (w : World) (v : Nat) (h : v < 256) : (w.alloc (.cells member0 28)).cell? ⟨w.heap.size, v, none⟩ = some (.bool false) := by
  rw [World.cell?_alloc_at _ _ _ _ rfl]
  simp [member0, h]

/-- The table at block m reads M; below m the world is as w was. -/
structure Table (w wx : World) (M : Nat → Bool) : Prop where
  cell : ∀ v, v < 256 → wx.cell? ⟨w.heap.size, v, none⟩ = some (.bool (M v))
  frozen : ∀ v, v < 256 → wx.frozen? ⟨w.heap.size, v, none⟩ = false
  below : Below w.heap.size w wx

theorem Table.start (w : World) : Table w (w.alloc (.cells member0 28)) (fun _ => false) :=
  ⟨fun v h => member0_at w v h, fun v _ => by simp, (Below.refl _ _).alloc (Nat.le_refl _) _⟩
theorem Table.mark {w wx : World} {M : Nat → Bool} (a v : Nat) (h : Table w wx (fun u => M u || (decide (a ≤ u) && decide (u < v)))) (hv : v < 256) (hav : a ≤ v) :
    Table w (wx.setCell ⟨w.heap.size, v, none⟩ (.bool true)) (fun u => M u || (decide (a ≤ u) && decide (u < v + 1))) := by
  refine ⟨fun u hu => ?_, fun u hu => ?_, h.below.setCell (Nat.le_refl _) _⟩
  · by_cases e : u = v
    · subst e
      rw [World.cell?_setCell_same _ _ _ (h.cell u hu)]
      simp [hav]
    · rw [World.cell?_setCell_other _ _ _ _ (by intro hh; simp only [Addr.mk.injEq] at hh; omega), h.cell u hu]
      have : decide (u < v) = decide (u < v + 1) := by
        apply decide_eq_decide.2; omega
      rw [this]
  · have := h.frozen u hu
    simpa using this

end Go.Proofs.Qxb6602814a
