/-
  THE LAW 'FnMatchOneReadsOnlyItsElement', walked.
-/
import Derived.Test.Qxb6602814aLawSpan
import Derived.Test.Qxb6602814aPlainLocal
namespace Go.Proofs.Qxb6602814a
open Go.RowKit

theorem zzMatchOne_zero (ao : Option Addr) (n cap : Nat) (g : Nat → Int) (c : Int) (w : World) (hn : n ≤ 1048576) (HP : Pat w ao n g) :
    Calls Try.prog 13 #[.slice ao n cap, .int .i64 0, .int .u8 c] w fun e w' =>
      e = .returned (.tuple #[.int .i64 (Pl.mNext g n 0 : Nat), .bool (Pl.mOk g n 0 c)]) ∧ ∃ j, w' = w.drewN j := by
  have h := zzMatchOne_any ao n cap g 0 c w hn (Nat.zero_le _) HP
  rw [Int.natCast_zero] at h
  exact h

set_option maxRecDepth 10000 in
theorem law_reads (ao : Option Addr) (len cap : Nat) (g : Nat → Int) (p c : Int) (w : World) (hlm : (len : Int) ≤ 9223372036854775807)
    (hrow : (ao = none ∧ len = 0 ∧ cap = 0) ∨ ∃ x, ao = some x ∧ ∀ i, i < len → w.cell? (x.add i) = some (.int .u8 (g i))) :
    Calls Try.prog 7 #[.slice ao len cap, .int .i64 p, .int .u8 c] w fun e w' => e = .returned (.bool true) ∧ Below w.heap.size w w' := by
  by_cases hbig : 1048576 < len
  · clear hrow
    go_enter Try.func7, Try.ntmps7
    go_wp2
    go_ret
    exact ⟨rfl, Below.refl _ _⟩
  by_cases hmid : 65536 < len
  · clear hrow
    go_enter Try.func7, Try.ntmps7
    go_wp2
    go_ret
    exact ⟨rfl, Below.refl _ _⟩
  by_cases hp0 : p < 0
  · clear hrow
    go_enter Try.func7, Try.ntmps7
    go_wp2
    go_ret
    exact ⟨rfl, Below.refl _ _⟩
  by_cases hp1 : (len : Int) ≤ p
  · clear hrow
    have hp0' : ¬ p < 0 := hp0
    go_enter Try.func7, Try.ntmps7
    go_wp2
    go_ret
    exact ⟨rfl, Below.refl _ _⟩
  obtain ⟨p, rfl⟩ := Int.eq_ofNat_of_zero_le (by omega : 0 ≤ p)
  have hpl : p < len := by omega
  have hlen : len ≤ 65536 := by omega
  clear hbig hmid hp0 hp1
  obtain ⟨x, rfl, hc⟩ : ∃ x, ao = some x ∧ ∀ i, i < len → w.cell? (x.add i) = some (.int .u8 (g i)) := by
    rcases hrow with ⟨_, h, _⟩ | h
    · omega
    · exact h
  have HC : Hid _ := hc
  clear hc hrow
  have hin := Pl.mNext_in g len p hpl
  have HL : Hid _ := Pl.mOne_local g len p c hpl
  go_enter Try.func7, Try.ntmps7
  go_wp2_with (go_at_call 19; go_in)
  refine (clone_some x len cap g w hlen HC.out).mono ?_
  rintro e w1 ⟨rfl, L, hb⟩
  have P1 : Pat w1 (some ⟨w.heap.size, 0, none⟩) len g := .inr ⟨_, 0, rfl, fun i hi => by rw [Nat.zero_add]; exact L.cell i hi hi⟩
  clear L
  go_wp2_with fail
  refine (zzMatchOne_any (some ⟨w.heap.size, 0, none⟩) len len g p c _ (by omega) (by omega) P1).mono ?_
  rintro e w2 ⟨rfl, j, rfl⟩
  generalize Pl.mNext g len p = nx at *
  generalize hok : Pl.mOk g len p c = ok at *
  have P2 : ∀ i, Pat (w1.drewN i) (some ⟨w.heap.size, p, none⟩) (nx - p) (fun i => g (p + i)) := fun j => by
    refine .inr ⟨_, p, rfl, fun i hi => ?_⟩
    rcases P1.drewN j with h | ⟨b, off, h, h2⟩
    · omega
    · simp only [Option.some.injEq, Addr.mk.injEq] at h
      obtain ⟨rfl, rfl, _⟩ := h
      rw [← h2 (p + i) (by omega), Nat.zero_add]
  clear hok
  go_wp2_with fail
  refine (zzMatchOne_zero (some ⟨w.heap.size, p, none⟩) (nx - p) (len - p) (fun i => g (p + i)) c _ (by omega) (P2 j)).mono ?_
  rintro e w3 ⟨rfl, j', rfl⟩
  rw [HL.out.1, HL.out.2]
  have hq : ((nx - p : Nat) : Int) = (nx : Int) - (p : Int) := by omega
  rw [hq]
  clear P1 P2 hq
  go_wp2
  go_ret
  exact ⟨rfl, below_drewN hb _⟩
end Go.Proofs.Qxb6602814a
