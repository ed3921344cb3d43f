/-
  THE LAW 'FnMatchOneSpanIgnoresTheByte', walked.
-/
import Derived.Test.Qxb6602814aWalkB
namespace Go.Proofs.Qxb6602814a
open Go.RowKit

theorem Pat.drewN {w : World} {ao : Option Addr} {n : Nat} {g : Nat → Int} (h : Pat w ao n g) (j : Nat) : Pat (w.drewN j) ao n g := by
  rcases h with h | ⟨b, off, h1, h2⟩
  · exact .inl h
  · exact .inr ⟨b, off, h1, fun i hi => by rw [← h2 i hi]; simp⟩

theorem pat_of {w : World} {B len : Nat} {ao : Option Addr} {g : Nat → Int} (h : ao = none ∧ len = 0 ∨ ao = some ⟨B, 0, none⟩) (hc : ∀ i, i < len → w.cell? ⟨B, i, none⟩ = some (.int .u8 (g i))) : Pat w ao len g := by
  rcases h with ⟨_, h⟩ | h
  · exact .inl h
  · exact .inr ⟨B, 0, h, fun i hi => by rw [Nat.zero_add]; exact hc i hi⟩

set_option maxRecDepth 10000 in
theorem law_span (ao : Option Addr) (len cap : Nat) (g : Nat → Int) (p c d : Int) (w : World) (hlm : (len : Int) ≤ 9223372036854775807)
    (hrow : (ao = none ∧ len = 0 ∧ cap = 0) ∨ ∃ x, ao = some x ∧ ∀ i, i < len → w.cell? (x.add i) = some (.int .u8 (g i))) :
    Calls Try.prog 6 #[.slice ao len cap, .int .i64 p, .int .u8 c, .int .u8 d] w fun e w' => e = .returned (.bool true) ∧ Below w.heap.size w w' := by
  by_cases hbig : 1048576 < len
  · clear hrow
    go_enter Try.func6, Try.ntmps6
    go_wp2
    go_ret
    exact ⟨rfl, Below.refl _ _⟩
  by_cases hmid : 65536 < len
  · clear hrow
    go_enter Try.func6, Try.ntmps6
    go_wp2
    go_ret
    exact ⟨rfl, Below.refl _ _⟩
  by_cases hp0 : p < 0
  · clear hrow
    go_enter Try.func6, Try.ntmps6
    go_wp2
    go_ret
    exact ⟨rfl, Below.refl _ _⟩
  by_cases hp1 : (len : Int) < p
  · clear hrow
    have hp0' : ¬ p < 0 := hp0
    go_enter Try.func6, Try.ntmps6
    go_wp2
    go_ret
    exact ⟨rfl, Below.refl _ _⟩
  obtain ⟨p, rfl⟩ := Int.eq_ofNat_of_zero_le (by omega : 0 ≤ p)
  have hpl : p ≤ len := by omega
  have hlen : len ≤ 65536 := by omega
  clear hbig hmid hp0 hp1
  have HR : Hid _ := hrow
  clear hrow
  by_cases hpe : p = len
  · subst hpe
    have E : Hid (Pl.mNext g p p = p ∧ (∀ c, Pl.mOk g p p c = false)) := ⟨Pl.mNext_end g p, Pl.mOk_end g p⟩
    go_enter Try.func6, Try.ntmps6
    go_wp2_with (go_at_call 18; go_in)
    refine (clone_any ao p cap g w hlen HR.out).mono ?_
    rintro e w1 ⟨ao', cap', rfl, hao, hc, hb, hs⟩
    have P1 := pat_of hao hc
    clear hao hc hs
    go_wp2_with fail
    refine (zzMatchOne_any ao' p cap' g p c _ (by omega) hpl P1).mono ?_
    rintro e w2 ⟨rfl, j, rfl⟩
    rw [E.out.1, E.out.2]
    go_wp2_with fail
    refine (zzMatchOne_any ao' p cap' g p d _ (by omega) hpl (P1.drewN j)).mono ?_
    rintro e w3 ⟨rfl, j', rfl⟩
    rw [E.out.1, E.out.2]
    go_wp2
    go_ret
    exact ⟨rfl, below_drewN hb _⟩
  · have E : Hid (p < Pl.mNext g len p ∧ Pl.mNext g len p ≤ len) := Pl.mNext_in g len p (by omega)
    go_enter Try.func6, Try.ntmps6
    go_wp2_with (go_at_call 18; go_in)
    refine (clone_any ao len cap g w hlen HR.out).mono ?_
    rintro e w1 ⟨ao', cap', rfl, hao, hc, hb, hs⟩
    have P1 := pat_of hao hc
    clear hao hc hs
    go_wp2_with fail
    refine (zzMatchOne_any ao' len cap' g p c _ (by omega) hpl P1).mono ?_
    rintro e w2 ⟨rfl, j, rfl⟩
    go_wp2_with fail
    refine (zzMatchOne_any ao' len cap' g p d _ (by omega) hpl (P1.drewN j)).mono ?_
    rintro e w3 ⟨rfl, j', rfl⟩
    obtain ⟨h1, h2⟩ := E.out
    generalize Pl.mNext g len p = nx at *
    have hq : ((p : Int) == (len : Int)) = false := by simp; omega
    go_wp2
    go_ret
    exact ⟨rfl, below_drewN hb _⟩
end Go.Proofs.Qxb6602814a
