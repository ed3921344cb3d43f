/-
  THE WALKS of variants and discount.
-/
import Derived.Test.Qxb6603276aRProg
import Derived.Test.Qxb6603276aRPlain
import Derived.WalkKit
import Derived.WalkSpells
import Derived.WalkLawsBesides
import Derived.Deep.LoopGhost
import Derived.Deep.Light
namespace Go.Proofs.Qxb6603276aR
open Go.RowKit

theorem grown_trans {a b c : World} (h : Grown a b) (k : Grown b c) : Grown a c :=
  ⟨World.keptBut_trans h.1 (World.keptBut_mono (fun _ f => f) k.1), fun x => (k.2.1 x).trans (h.2.1 x), Nat.le_trans h.2.2 k.2.2⟩

theorem ret_int {k : IntKind} {a b : Int} (h : a = b) : Ending.returned (.int k a) = .returned (.int k b) := by rw [h]

theorem vge_0 {a b : Nat} (h : 6 ≤ b ∨ Pl.bnd b < a) : Pl.vge a b = 0 := by unfold Pl.vge; rw [if_pos h]
theorem vge_2 {a b : Nat} (h : ¬ (6 ≤ b ∨ Pl.bnd b < a)) (h2 : 0 < b ∧ a + b ≤ 17) : Pl.vge a b = 2 := by unfold Pl.vge; rw [if_neg h, if_pos h2]
theorem vge_1 {a b : Nat} (h : ¬ (6 ≤ b ∨ Pl.bnd b < a)) (h2 : ¬ (0 < b ∧ a + b ≤ 17)) : Pl.vge a b = 1 := by unfold Pl.vge; rw [if_neg h, if_neg h2]

theorem var_ge0 (a : Nat) (w : World) (ha : (a : Int) ≤ 9223372036854775807) (_h0 : 0 ≤ a) :
    Calls Try.prog 16 #[.int .i64 a, .int .i64 0] w fun e w' => e = .returned (.int .i64 (Pl.vge a 0 : Nat)) ∧ Grown w w' := by
  by_cases h1 : 20 < a
  · rw [vge_0 (.inr (show 20 < a from h1))]
    go_enter Try.func16, Try.ntmps16
    go_wp2
    go_ret
    exact ⟨rfl, by repeat (first | exact Grown.refl _ | apply Grown.drew | apply Grown.alloc)⟩
  · rw [vge_1 (by rintro (h | h); (omega); exact h1 h) (by omega)]
    go_enter Try.func16, Try.ntmps16
    go_wp2
    go_ret
    exact ⟨rfl, by repeat (first | exact Grown.refl _ | apply Grown.drew | apply Grown.alloc)⟩

theorem var_ge1 (a : Nat) (w : World) (ha : (a : Int) ≤ 9223372036854775807) (h0 : 1 ≤ a) :
    Calls Try.prog 16 #[.int .i64 a, .int .i64 1] w fun e w' => e = .returned (.int .i64 (Pl.vge a 1 : Nat)) ∧ Grown w w' := by
  by_cases h1 : 48 < a
  · rw [vge_0 (.inr (show 48 < a from h1))]
    go_enter Try.func16, Try.ntmps16
    go_wp2
    go_ret
    exact ⟨rfl, by repeat (first | exact Grown.refl _ | apply Grown.drew | apply Grown.alloc)⟩
  · by_cases h2 : a + 1 ≤ 17
    · rw [vge_2 (by rintro (h | h); (omega); exact h1 h) ⟨by omega, h2⟩]
      go_enter Try.func16, Try.ntmps16
      go_wp2
      go_ret
      exact ⟨rfl, by repeat (first | exact Grown.refl _ | apply Grown.drew | apply Grown.alloc)⟩
    · rw [vge_1 (by rintro (h | h); (omega); exact h1 h) (fun h => h2 h.2)]
      go_enter Try.func16, Try.ntmps16
      go_wp2
      go_ret
      exact ⟨rfl, by repeat (first | exact Grown.refl _ | apply Grown.drew | apply Grown.alloc)⟩

theorem var_ge2 (a : Nat) (w : World) (ha : (a : Int) ≤ 9223372036854775807) (h0 : 2 ≤ a) :
    Calls Try.prog 16 #[.int .i64 a, .int .i64 2] w fun e w' => e = .returned (.int .i64 (Pl.vge a 2 : Nat)) ∧ Grown w w' := by
  by_cases h1 : 15 < a
  · rw [vge_0 (.inr (show 15 < a from h1))]
    go_enter Try.func16, Try.ntmps16
    go_wp2
    go_ret
    exact ⟨rfl, by repeat (first | exact Grown.refl _ | apply Grown.drew | apply Grown.alloc)⟩
  · rw [vge_2 (by rintro (h | h); (omega); exact h1 h) ⟨by omega, by omega⟩]
    have h2 : a + 2 ≤ 17 := by omega
    go_enter Try.func16, Try.ntmps16
    go_wp2
    go_ret
    exact ⟨rfl, by repeat (first | exact Grown.refl _ | apply Grown.drew | apply Grown.alloc)⟩

theorem var_ge3 (a : Nat) (w : World) (ha : (a : Int) ≤ 9223372036854775807) (h0 : 3 ≤ a) :
    Calls Try.prog 16 #[.int .i64 a, .int .i64 3] w fun e w' => e = .returned (.int .i64 (Pl.vge a 3 : Nat)) ∧ Grown w w' := by
  by_cases h1 : 8 < a
  · rw [vge_0 (.inr (show 8 < a from h1))]
    go_enter Try.func16, Try.ntmps16
    go_wp2
    go_ret
    exact ⟨rfl, by repeat (first | exact Grown.refl _ | apply Grown.drew | apply Grown.alloc)⟩
  · rw [vge_2 (by rintro (h | h); (omega); exact h1 h) ⟨by omega, by omega⟩]
    have h2 : a + 3 ≤ 17 := by omega
    go_enter Try.func16, Try.ntmps16
    go_wp2
    go_ret
    exact ⟨rfl, by repeat (first | exact Grown.refl _ | apply Grown.drew | apply Grown.alloc)⟩

theorem var_ge4 (a : Nat) (w : World) (ha : (a : Int) ≤ 9223372036854775807) (h0 : 4 ≤ a) :
    Calls Try.prog 16 #[.int .i64 a, .int .i64 4] w fun e w' => e = .returned (.int .i64 (Pl.vge a 4 : Nat)) ∧ Grown w w' := by
  by_cases h1 : 6 < a
  · rw [vge_0 (.inr (show 6 < a from h1))]
    go_enter Try.func16, Try.ntmps16
    go_wp2
    go_ret
    exact ⟨rfl, by repeat (first | exact Grown.refl _ | apply Grown.drew | apply Grown.alloc)⟩
  · rw [vge_2 (by rintro (h | h); (omega); exact h1 h) ⟨by omega, by omega⟩]
    have h2 : a + 4 ≤ 17 := by omega
    go_enter Try.func16, Try.ntmps16
    go_wp2
    go_ret
    exact ⟨rfl, by repeat (first | exact Grown.refl _ | apply Grown.drew | apply Grown.alloc)⟩

theorem var_ge5 (a : Nat) (w : World) (ha : (a : Int) ≤ 9223372036854775807) (h0 : 5 ≤ a) :
    Calls Try.prog 16 #[.int .i64 a, .int .i64 5] w fun e w' => e = .returned (.int .i64 (Pl.vge a 5 : Nat)) ∧ Grown w w' := by
  by_cases h1 : 5 < a
  · rw [vge_0 (.inr (show 5 < a from h1))]
    go_enter Try.func16, Try.ntmps16
    go_wp2
    go_ret
    exact ⟨rfl, by repeat (first | exact Grown.refl _ | apply Grown.drew | apply Grown.alloc)⟩
  · rw [vge_2 (by rintro (h | h); (omega); exact h1 h) ⟨by omega, by omega⟩]
    have h2 : a + 5 ≤ 17 := by omega
    go_enter Try.func16, Try.ntmps16
    go_wp2
    go_ret
    exact ⟨rfl, by repeat (first | exact Grown.refl _ | apply Grown.drew | apply Grown.alloc)⟩

theorem var_lt0 (a : Nat) (w : World) (ha : (a : Int) ≤ 9223372036854775807) (h0 : 0 < a) :
    Calls Try.prog 16 #[.int .i64 0, .int .i64 a] w fun e w' => e = .returned (.int .i64 (Pl.vge a 0 : Nat)) ∧ Grown w w' := by
  by_cases h1 : 20 < a
  · rw [vge_0 (.inr (show 20 < a from h1))]
    go_enter Try.func16, Try.ntmps16
    go_wp2
    go_ret
    exact ⟨rfl, by repeat (first | exact Grown.refl _ | apply Grown.drew | apply Grown.alloc)⟩
  · rw [vge_1 (by rintro (h | h); (omega); exact h1 h) (by omega)]
    go_enter Try.func16, Try.ntmps16
    go_wp2
    go_ret
    exact ⟨rfl, by repeat (first | exact Grown.refl _ | apply Grown.drew | apply Grown.alloc)⟩

theorem var_lt1 (a : Nat) (w : World) (ha : (a : Int) ≤ 9223372036854775807) (h0 : 1 < a) :
    Calls Try.prog 16 #[.int .i64 1, .int .i64 a] w fun e w' => e = .returned (.int .i64 (Pl.vge a 1 : Nat)) ∧ Grown w w' := by
  by_cases h1 : 48 < a
  · rw [vge_0 (.inr (show 48 < a from h1))]
    go_enter Try.func16, Try.ntmps16
    go_wp2
    go_ret
    exact ⟨rfl, by repeat (first | exact Grown.refl _ | apply Grown.drew | apply Grown.alloc)⟩
  · by_cases h2 : a + 1 ≤ 17
    · rw [vge_2 (by rintro (h | h); (omega); exact h1 h) ⟨by omega, h2⟩]
      go_enter Try.func16, Try.ntmps16
      go_wp2
      go_ret
      exact ⟨rfl, by repeat (first | exact Grown.refl _ | apply Grown.drew | apply Grown.alloc)⟩
    · rw [vge_1 (by rintro (h | h); (omega); exact h1 h) (fun h => h2 h.2)]
      go_enter Try.func16, Try.ntmps16
      go_wp2
      go_ret
      exact ⟨rfl, by repeat (first | exact Grown.refl _ | apply Grown.drew | apply Grown.alloc)⟩

theorem var_lt2 (a : Nat) (w : World) (ha : (a : Int) ≤ 9223372036854775807) (h0 : 2 < a) :
    Calls Try.prog 16 #[.int .i64 2, .int .i64 a] w fun e w' => e = .returned (.int .i64 (Pl.vge a 2 : Nat)) ∧ Grown w w' := by
  by_cases h1 : 15 < a
  · rw [vge_0 (.inr (show 15 < a from h1))]
    go_enter Try.func16, Try.ntmps16
    go_wp2
    go_ret
    exact ⟨rfl, by repeat (first | exact Grown.refl _ | apply Grown.drew | apply Grown.alloc)⟩
  · rw [vge_2 (by rintro (h | h); (omega); exact h1 h) ⟨by omega, by omega⟩]
    have h2 : a + 2 ≤ 17 := by omega
    go_enter Try.func16, Try.ntmps16
    go_wp2
    go_ret
    exact ⟨rfl, by repeat (first | exact Grown.refl _ | apply Grown.drew | apply Grown.alloc)⟩

theorem var_lt3 (a : Nat) (w : World) (ha : (a : Int) ≤ 9223372036854775807) (h0 : 3 < a) :
    Calls Try.prog 16 #[.int .i64 3, .int .i64 a] w fun e w' => e = .returned (.int .i64 (Pl.vge a 3 : Nat)) ∧ Grown w w' := by
  by_cases h1 : 8 < a
  · rw [vge_0 (.inr (show 8 < a from h1))]
    go_enter Try.func16, Try.ntmps16
    go_wp2
    go_ret
    exact ⟨rfl, by repeat (first | exact Grown.refl _ | apply Grown.drew | apply Grown.alloc)⟩
  · rw [vge_2 (by rintro (h | h); (omega); exact h1 h) ⟨by omega, by omega⟩]
    have h2 : a + 3 ≤ 17 := by omega
    go_enter Try.func16, Try.ntmps16
    go_wp2
    go_ret
    exact ⟨rfl, by repeat (first | exact Grown.refl _ | apply Grown.drew | apply Grown.alloc)⟩

theorem var_lt4 (a : Nat) (w : World) (ha : (a : Int) ≤ 9223372036854775807) (h0 : 4 < a) :
    Calls Try.prog 16 #[.int .i64 4, .int .i64 a] w fun e w' => e = .returned (.int .i64 (Pl.vge a 4 : Nat)) ∧ Grown w w' := by
  by_cases h1 : 6 < a
  · rw [vge_0 (.inr (show 6 < a from h1))]
    go_enter Try.func16, Try.ntmps16
    go_wp2
    go_ret
    exact ⟨rfl, by repeat (first | exact Grown.refl _ | apply Grown.drew | apply Grown.alloc)⟩
  · rw [vge_2 (by rintro (h | h); (omega); exact h1 h) ⟨by omega, by omega⟩]
    have h2 : a + 4 ≤ 17 := by omega
    go_enter Try.func16, Try.ntmps16
    go_wp2
    go_ret
    exact ⟨rfl, by repeat (first | exact Grown.refl _ | apply Grown.drew | apply Grown.alloc)⟩

theorem var_lt5 (a : Nat) (w : World) (ha : (a : Int) ≤ 9223372036854775807) (h0 : 5 < a) :
    Calls Try.prog 16 #[.int .i64 5, .int .i64 a] w fun e w' => e = .returned (.int .i64 (Pl.vge a 5 : Nat)) ∧ Grown w w' := by
  by_cases h1 : 5 < a
  · rw [vge_0 (.inr (show 5 < a from h1))]
    go_enter Try.func16, Try.ntmps16
    go_wp2
    go_ret
    exact ⟨rfl, by repeat (first | exact Grown.refl _ | apply Grown.drew | apply Grown.alloc)⟩
  · omega

theorem var_ge6 (a b : Nat) (w : World) (h0 : b ≤ a) (h6 : 6 ≤ b) :
    Calls Try.prog 16 #[.int .i64 a, .int .i64 b] w fun e w' => e = .returned (.int .i64 (Pl.vge a b : Nat)) ∧ Grown w w' := by
  rw [vge_0 (.inl h6)]
  go_enter Try.func16, Try.ntmps16
  go_wp2
  go_ret
  exact ⟨rfl, by repeat (first | exact Grown.refl _ | apply Grown.drew | apply Grown.alloc)⟩
theorem var_lt6 (a b : Nat) (w : World) (h0 : b < a) (h6 : 6 ≤ b) :
    Calls Try.prog 16 #[.int .i64 b, .int .i64 a] w fun e w' => e = .returned (.int .i64 (Pl.vge a b : Nat)) ∧ Grown w w' := by
  rw [vge_0 (.inl h6)]
  go_enter Try.func16, Try.ntmps16
  go_wp2
  go_ret
  exact ⟨rfl, by repeat (first | exact Grown.refl _ | apply Grown.drew | apply Grown.alloc)⟩


/-- variants, whatever two counts come in. -/
theorem variants_any (a b : Nat) (w : World) (ha : (a : Int) ≤ 9223372036854775807) (hb : (b : Int) ≤ 9223372036854775807) :
    Calls Try.prog 16 #[.int .i64 a, .int .i64 b] w fun e w' => e = .returned (.int .i64 (Pl.var a b : Nat)) ∧ Grown w w' := by
  by_cases h : a < b
  · have e : Pl.var a b = Pl.vge b a := by unfold Pl.var; rw [if_pos h]
    rw [e]
    by_cases h6 : 6 ≤ a
    · exact var_lt6 b a w h h6
    · have : a = 0 ∨ a = 1 ∨ a = 2 ∨ a = 3 ∨ a = 4 ∨ a = 5 := by omega
      rcases this with rfl | rfl | rfl | rfl | rfl | rfl
      · exact var_lt0 b w hb h
      · exact var_lt1 b w hb h
      · exact var_lt2 b w hb h
      · exact var_lt3 b w hb h
      · exact var_lt4 b w hb h
      · exact var_lt5 b w hb h
  · have e : Pl.var a b = Pl.vge a b := by unfold Pl.var; rw [if_neg h]
    rw [e]
    by_cases h6 : 6 ≤ b
    · exact var_ge6 a b w (by omega) h6
    · have : b = 0 ∨ b = 1 ∨ b = 2 ∨ b = 3 ∨ b = 4 ∨ b = 5 := by omega
      rcases this with rfl | rfl | rfl | rfl | rfl | rfl
      · exact var_ge0 a w ha (by omega)
      · exact var_ge1 a w ha (by omega)
      · exact var_ge2 a w ha (by omega)
      · exact var_ge3 a w ha (by omega)
      · exact var_ge4 a w ha (by omega)
      · exact var_ge5 a w ha (by omega)
end Go.Proofs.Qxb6603276aR
