/-
  THE LAW 'FnInSetAgreesWithTokenModel', walked.
-/
import Derived.Test.Qxb6602814aWalkC
import Derived.Test.Qxb6602814aLawSpan
namespace Go.Proofs.Qxb6602814a
open Go.RowKit

theorem zzInSet_far (ao : Option Addr) (n cap : Nat) (p : Int) (c : Int) (w : World) (hp : (n : Int) ≤ p) :
    Calls Try.prog 21 #[.slice ao n cap, .int .i64 p, .int .u8 c] w fun e w' => e = .returned (.tuple #[.int .i64 0, .bool false, .bool false]) ∧ w' = w := by
  go_enter Try.func21, Try.ntmps21
  go_wp2_with (go_at_call 26; refine (inSet_far ao n cap p c _ hp).mono ?_; rintro e w' ⟨rfl, rfl⟩)
  go_ret3
  exact ⟨rfl, rfl⟩

theorem zzInSet_some (b off n cap : Nat) (g : Nat → Int) (p : Nat) (c : Int) (w : World) (hn : n ≤ 1048576) (hp : p ≤ 1048577)
    (HC : Hid (∀ i, i < n → w.cell? ⟨b, off + i, none⟩ = some (.int .u8 (g i)))) :
    Calls Try.prog 21 #[.slice (some ⟨b, off, none⟩) n cap, .int .i64 p, .int .u8 c] w fun e w' =>
      e = .returned (.tuple #[.int .i64 ((Pl.inSet g n p c).1 : Nat), .bool (Pl.inSet g n p c).2.1, .bool (Pl.inSet g n p c).2.2]) ∧ w' = w := by
  go_enter Try.func21, Try.ntmps21
  go_wp2_with (go_at_call 26; refine (inSet_some b off n cap g p c _ hn hp HC.out).mono ?_; rintro e w' ⟨rfl, rfl⟩)
  go_ret3
  exact ⟨rfl, rfl⟩

theorem inSet_toks (g : Nat → Int) (n p : Nat) (c : Int) (h : p < n) : Pl.inSet g n p c = Pl.setT c (g p == 94) (Pl.toks g n n (if (g p == 94) = true then p + 1 else p)) false true := by
  unfold Pl.inSet
  have e : Pl.caret g n p = (g p == 94) := by simp [Pl.caret, h]
  rw [e]
  exact Pl.setLoop_toks g n c _ n _ false true (by omega)

set_option maxRecDepth 10000 in
theorem law_tok (ao : Option Addr) (len cap : Nat) (g : Nat → Int) (p c : Int) (w : World) (hlm : (len : Int) ≤ 9223372036854775807) (hc0 : 0 ≤ c) (hc1 : c ≤ 255) (hg : ∀ i, 0 ≤ g i ∧ g i ≤ 255)
    (hrow : (ao = none ∧ len = 0 ∧ cap = 0) ∨ ∃ x, ao = some x ∧ ∀ i, i < len → w.cell? (x.add i) = some (.int .u8 (g i))) :
    Calls Try.prog 8 #[.slice ao len cap, .int .i64 p, .int .u8 c] w fun e w' => e = .returned (.bool true) ∧ Below w.heap.size w w' := by
  by_cases hbig : 1048576 < len
  · clear hrow hg
    go_enter Try.func8, Try.ntmps8
    go_wp2
    go_ret
    exact ⟨rfl, Below.refl _ _⟩
  by_cases hmid : 65536 < len
  · clear hrow hg
    go_enter Try.func8, Try.ntmps8
    go_wp2
    go_ret
    exact ⟨rfl, Below.refl _ _⟩
  by_cases hp0 : p < 0
  · clear hrow hg
    go_enter Try.func8, Try.ntmps8
    go_wp2
    go_ret
    exact ⟨rfl, Below.refl _ _⟩
  have hlen : len ≤ 65536 := by omega
  have hp0' : 0 ≤ p := by omega
  have HG : Hid (∀ i, 0 ≤ g i ∧ g i ≤ 255) := hg
  have HR : Hid _ := hrow
  clear hbig hmid hp0 hrow hg
  by_cases hpl : (len : Int) ≤ p
  · go_enter Try.func8, Try.ntmps8
    go_wp2_with (go_at_call 20; go_in)
    refine (clone_any ao len cap g w hlen HR.out).mono ?_
    rintro e w1 ⟨ao', cap', rfl, _, _, hb, _⟩
    go_wp2_with (first | (go_at_call 21; refine (zzInSet_far ao' len cap' p c _ hpl).mono ?_; rintro e w' ⟨rfl, rfl⟩) | (go_at_call 22; refine (tok_far ao' len cap' p c _ hp0' hpl).mono ?_; rintro e w' ⟨rfl, rfl⟩))
    go_ret
    exact ⟨rfl, hb⟩
  · obtain ⟨p, rfl⟩ := Int.eq_ofNat_of_zero_le hp0'
    obtain ⟨c, rfl⟩ := Int.eq_ofNat_of_zero_le hc0
    have hpN : p < len := by omega
    clear hpl
    obtain ⟨x, rfl, hc⟩ : ∃ x, ao = some x ∧ ∀ i, i < len → w.cell? (x.add i) = some (.int .u8 (g i)) := by
      rcases HR.out with ⟨_, h, _⟩ | h
      · omega
      · exact h
    have HC : Hid _ := hc
    clear hc HR
    go_enter Try.func8, Try.ntmps8
    go_wp2_with (go_at_call 20; go_in)
    refine (clone_some x len cap g w hlen HC.out).mono ?_
    rintro e w1 ⟨rfl, L, hb⟩
    have C1 : Hid (∀ i, i < len → w1.cell? ⟨w.heap.size, 0 + i, none⟩ = some (.int .u8 (g i))) := fun i hi => by rw [Nat.zero_add]; exact L.cell i hi hi
    have hsz : w.heap.size < w1.heap.size := World.block_lt_of_cell? _ _ (L.cell p hpN hpN)
    clear L
    go_wp2_with fail
    refine (zzInSet_some w.heap.size 0 len len g p c _ (by omega) (by omega) C1).mono ?_
    rintro e w2 ⟨rfl, rfl⟩
    go_wp2_with fail
    refine (tok_in w.heap.size 0 len len g p c w2 hlen hpN (by omega) hsz HG.out C1 _ _ rfl rfl _ rfl).mono ?_
    rintro e w3 ⟨e1, i1, o1, rfl, he, hb2⟩
    rw [← inSet_toks g len p c hpN] at he
    rw [← he]
    clear he
    go_wp2
    go_ret
    exact ⟨rfl, hb.trans (hb2.mono hb.size)⟩
end Go.Proofs.Qxb6602814a
