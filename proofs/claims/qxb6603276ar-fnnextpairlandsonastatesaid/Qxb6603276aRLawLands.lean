/-
  THE LAW 'FnNextPairLandsOnAState', walked.
-/
import Derived.Test.Qxb6603276aRWalkB
namespace Go.Proofs.Qxb6603276aR
open Go.RowKit

set_option maxRecDepth 10000 in
theorem law_lands (a b y : Int) (w : World) (ha : a ≤ 9223372036854775807) (hb : b ≤ 9223372036854775807) :
    Calls Try.prog 5 #[.int .i64 a, .int .i64 b, .int .i64 y] w fun e w' => e = .returned (.bool true) ∧ Grown w w' := by
  by_cases h1 : a < 0
  · have d1 : decide (a < 0) = true := decide_eq_true h1
    go_enter Try.func5, Try.ntmps5
    go_wp2
    go_ret
    exact ⟨rfl, Grown.refl _⟩
  have d1 : decide (a < 0) = false := decide_eq_false h1
  by_cases h2 : b < 0
  · have d2 : decide (b < 0) = true := decide_eq_true h2
    clear h1
    go_enter Try.func5, Try.ntmps5
    go_wp2
    go_ret
    exact ⟨rfl, Grown.refl _⟩
  have d2 : decide (b < 0) = false := decide_eq_false h2
  by_cases h3 : y ≠ 0 ∧ y ≠ 1
  · have d3 : (y != 0) = true := by simpa using h3.1
    have d4 : (y != 1) = true := by simpa using h3.2
    clear h1 h2 h3
    go_enter Try.func5, Try.ntmps5
    go_wp2
    go_ret
    exact ⟨rfl, Grown.refl _⟩
  have hy : y = 0 ∨ y = 1 := by omega
  clear h3 d1 d2
  obtain ⟨a, rfl⟩ := Int.eq_ofNat_of_zero_le (by omega : 0 ≤ a)
  obtain ⟨b, rfl⟩ := Int.eq_ofNat_of_zero_le (by omega : 0 ≤ b)
  obtain ⟨y, rfl⟩ := Int.eq_ofNat_of_zero_le (by omega : 0 ≤ y)
  have hy : y = 0 ∨ y = 1 := by omega
  have d3 : ((y : Int) != 0) = false ∨ (((y : Int) != 0) = true ∧ ((y : Int) != 1) = false) := by
    rcases hy with rfl | rfl
    · exact .inl (by decide)
    · exact .inr ⟨by decide, by decide⟩
  clear h1 h2
  by_cases hv : Pl.var a b = 0
  · have HV : Hid (Pl.var a b = 0) := hv
    clear hv
    rcases d3 with d3 | ⟨d3, d4⟩
    · go_enter Try.func5, Try.ntmps5
      go_wp2_with (go_at_call 13; refine (zzVariants_any a b _ ha hb).mono ?_; rintro e w1 ⟨rfl, hG1⟩; rw [HV.out])
      go_ret
      exact ⟨rfl, hG1⟩
    · go_enter Try.func5, Try.ntmps5
      go_wp2_with (go_at_call 13; refine (zzVariants_any a b _ ha hb).mono ?_; rintro e w1 ⟨rfl, hG1⟩; rw [HV.out])
      go_ret
      exact ⟨rfl, hG1⟩
  · have HL : Hid _ := Pl.lands_at a b y (by omega) hv
    have HV : Hid (Pl.var a b ≠ 0) := hv
    have v0 : ((Pl.var a b : Int) == 0) = false := by simp; omega
    obtain ⟨hl1, hl2, _⟩ := Pl.var_le a b hv
    clear hv d3
    rcases hy with rfl | rfl
    · have y0 : ((0 : Nat) : Int) = 0 := rfl
      go_enter Try.func5, Try.ntmps5
      go_wp2_with fail
      refine (zzVariants_any a b w ha hb).mono ?_
      rintro e w1 ⟨rfl, hG1⟩
      go_wp2_with fail
      refine (zzNextPair_any a b 0 w1 HV.out (by omega)).mono ?_
      rintro e w2 ⟨rfl, hG2⟩
      obtain ⟨l1, l2, l3, l4⟩ := HL.out
      obtain ⟨m1, m2, m3⟩ := l3 (by first | rfl | trivial)
      clear l3 l4 HL
      have v1 : ((Pl.var (Pl.np a b 0).1 (Pl.np a b 0).2 : Int) == 0) = false := by simp; omega
      generalize (Pl.np a b 0).1 = c at *
      generalize (Pl.np a b 0).2 = d at *
      have HG : Hid (Grown w w2) := grown_trans hG1 hG2
      clear hG1 hG2 l2
      go_wp2_with fail
      refine (zzVariants_any c d w2 (by omega) (by omega)).mono ?_
      rintro e w3 ⟨rfl, hG3⟩
      have HG2 : Hid (Grown w w3) := grown_trans HG.out hG3
      clear hG3 HG
      go_wp2
      go_ret
      exact ⟨rfl, HG2.out⟩
    · have y0 : ((1 : Nat) : Int) = 1 := rfl
      go_enter Try.func5, Try.ntmps5
      go_wp2_with fail
      refine (zzVariants_any a b w ha hb).mono ?_
      rintro e w1 ⟨rfl, hG1⟩
      go_wp2_with fail
      refine (zzNextPair_any a b 1 w1 HV.out (by omega)).mono ?_
      rintro e w2 ⟨rfl, hG2⟩
      obtain ⟨l1, l2, l3, l4⟩ := HL.out
      obtain ⟨m1, m2, m3⟩ := l4 (by first | rfl | trivial)
      clear l3 l4 HL
      have v1 : ((Pl.var (Pl.np a b 1).1 (Pl.np a b 1).2 : Int) == 0) = false := by simp; omega
      generalize (Pl.np a b 1).1 = c at *
      generalize (Pl.np a b 1).2 = d at *
      have HG : Hid (Grown w w2) := grown_trans hG1 hG2
      clear hG1 hG2 l2
      go_wp2_with fail
      refine (zzVariants_any c d w2 (by omega) (by omega)).mono ?_
      rintro e w3 ⟨rfl, hG3⟩
      have HG2 : Hid (Grown w w3) := grown_trans HG.out hG3
      clear hG3 HG
      go_wp2
      go_ret
      exact ⟨rfl, HG2.out⟩
end Go.Proofs.Qxb6603276aR
