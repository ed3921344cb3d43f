/-
  PARTS of the walk of FnMatchAgreesWithElementDP: rows of bools that are filled one by one.
-/
import Derived.Test.Qxb6602814aWalkM
import Derived.Test.Qxb6602814aPlainDP
import Derived.Test.Qxb6602814aTokParts
namespace Go.Proofs.Qxb6602814a
open Go.RowKit

/-- Block r holds L cells that may be written; the first K of them are the bools F. -/
structure BRow (w : World) (r L : Nat) (F : Nat → Bool) (K : Nat) : Prop where
  cell : ∀ i, i < K → w.cell? ⟨r, i, none⟩ = some (.bool (F i))
  old : ∀ i, i < L → ∃ v, w.cell? ⟨r, i, none⟩ = some v
  frozen : ∀ i, i < L → w.frozen? ⟨r, i, none⟩ = false

section
variable {w w' : World} {r L : Nat} {F : Nat → Bool} {K : Nat}

theorem BRow.lt (h : BRow w r L F K) (hL : 0 < L) : r < w.heap.size := by
  obtain ⟨v, hv⟩ := h.old 0 hL
  exact World.block_lt_of_cell? _ _ hv
theorem BRow.forget (h : BRow w r L F K) (G : Nat → Bool) : BRow w r L G 0 := ⟨fun i hi => by omega, h.old, h.frozen⟩
theorem BRow.set (h : BRow w r L F K) (hK : K < L) : BRow (w.setCell ⟨r, K, none⟩ (.bool (F K))) r L F (K + 1) := by
  refine ⟨fun i hi => ?_, fun i hi => ?_, fun i hi => ?_⟩
  · by_cases e : i = K
    · subst e
      obtain ⟨v, hv⟩ := h.old i hK
      exact World.cell?_setCell_same _ _ _ hv
    · rw [World.cell?_setCell_other _ _ _ _ (by intro hh; simp only [Addr.mk.injEq] at hh; omega)]
      exact h.cell i (by omega)
  · obtain ⟨v, hv⟩ := h.old i hi
    exact cell?_setCell_some hv
  · have := h.frozen i hi
    simpa using this
theorem BRow.other (h : BRow w r L F K) (r' j : Nat) (v : Value) (hne : r ≠ r') : BRow (w.setCell ⟨r', j, none⟩ v) r L F K := by
  refine ⟨fun i hi => ?_, fun i hi => ?_, fun i hi => ?_⟩
  · rw [World.cell?_setCell_other _ _ _ _ (by intro hh; simp only [Addr.mk.injEq] at hh; omega)]
    exact h.cell i hi
  · obtain ⟨u, hu⟩ := h.old i hi
    exact cell?_setCell_some hu
  · have := h.frozen i hi
    simpa using this
theorem BRow.drewN (h : BRow w r L F K) (j : Nat) : BRow (w.drewN j) r L F K :=
  ⟨fun i hi => by simpa using h.cell i hi, fun i hi => by simpa using h.old i hi, fun i hi => by simpa using h.frozen i hi⟩
theorem BRow.below {B : Nat} (h : BRow w r L F K) (hb : Below B w w') (hr : r < B) : BRow w' r L F K :=
  ⟨fun i hi => (hb.cell (p := ⟨r, i, none⟩) hr).trans (h.cell i hi), fun i hi => by obtain ⟨v, hv⟩ := h.old i hi; exact ⟨v, (hb.cell (p := ⟨r, i, none⟩) hr).trans hv⟩,
   fun i hi => (hb.frozen (p := ⟨r, i, none⟩) hr).trans (h.frozen i hi)⟩
theorem BRow.alloc (h : BRow w r L F K) (o : Obj) (hr : r < w.heap.size) : BRow (w.alloc o) r L F K := h.below ((Below.refl _ _).alloc (Nat.le_refl _) o) hr
theorem BRow.same {G : Nat → Bool} (h : BRow w r L F K) (e : ∀ i, i < K → F i = G i) : BRow w r L G K := ⟨fun i hi => by rw [h.cell i hi, e i hi], h.old, h.frozen⟩

theorem BRow.table (w : World) (F : Nat → Bool) : BRow (w.alloc (.cells member0 28)) w.heap.size 256 F 0 :=
  ⟨fun i hi => by omega, fun i hi => ⟨_, member0_at w i hi⟩, fun i _ => by simp⟩

theorem BRow.made {B : Nat} {xs : List Value} (ho : w.ownsRow B 4 1 (.slice (some ⟨r, 0, none⟩) L L) L xs) (hx : xs.length = L) (F : Nat → Bool) : BRow w r L F 0 :=
  ⟨fun i hi => by omega, fun i hi => ⟨xs[i], by rw [ho.cellAt i (by omega)]; simp [hx, hi]⟩, fun i _ => ho.frozenAt i⟩
theorem BRow.zero {B : Nat} (ho : w.ownsRow B 4 1 (.slice (some ⟨r, 0, none⟩) L L) L (madeCells (Value.bool false).cells (L * 1)).toList) : BRow w r L (fun _ => false) L := by
  have hx : (madeCells (Value.bool false).cells (L * 1)).toList.length = L := by simp [size_madeCells]
  refine ⟨fun i hi => ?_, (BRow.made ho hx (fun _ => false)).old, (BRow.made ho hx (fun _ => false)).frozen⟩
  rw [ho.cellAt i (by omega)]
  simp [madeCells, hi, Value.cells, Nat.mod_one]
theorem BRow.one (h : BRow w r L (fun _ => false) L) (hL : 0 < L) : BRow (w.setCell ⟨r, 0, none⟩ (.bool true)) r L Pl.startD L := by
  refine ⟨fun i hi => ?_, fun i hi => ?_, fun i hi => ?_⟩
  · by_cases e : i = 0
    · subst e
      rw [World.cell?_setCell_same _ _ _ (h.cell 0 hL)]; rfl
    · rw [World.cell?_setCell_other _ _ _ _ (by intro hh; simp only [Addr.mk.injEq] at hh; omega), h.cell i hi]
      simp [Pl.startD, e]
  · obtain ⟨v, hv⟩ := h.old i hi
    exact cell?_setCell_some hv
  · have := h.frozen i hi
    simpa using this
end

theorem Pat.later {w w' : World} {ao : Option Addr} {n : Nat} {g : Nat → Int} (h : Pat w ao n g) (hb : Below w.heap.size w w') : Pat w' ao n g := by
  rcases h with h | ⟨b, off, h1, h2⟩
  · exact .inl h
  · exact .inr ⟨b, off, h1, fun i hi => (hb.cell (World.block_lt_of_cell? _ _ (h2 i hi))).trans (h2 i hi)⟩

end Go.Proofs.Qxb6602814a
