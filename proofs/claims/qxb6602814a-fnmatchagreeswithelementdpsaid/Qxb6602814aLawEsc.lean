/-
  THE LAW 'FnMatchEscapedLiteralIsEquality', walked.
-/
import Derived.Test.Qxb6602814aWalkM
import Derived.Test.Qxb6602814aLawSpan
namespace Go.Proofs.Qxb6602814a
open Go.RowKit

namespace Pl
/-- Do the first k bytes agree? -/
def allB (a b : Nat → Int) : Nat → Bool
  | 0 => true
  | k + 1 => allB a b k && (a k == b k)
def eqB (a b : Nat → Int) (la lb : Nat) : Bool := decide (la = lb) && allB a b la

theorem allB_iff (a b : Nat → Int) : ∀ k, allB a b k = true ↔ ∀ i, i < k → a i = b i
  | 0 => by simp [allB]
  | k + 1 => by
    unfold allB
    rw [Bool.and_eq_true, allB_iff a b k, beq_iff_eq]
    constructor
    · intro h i hi
      by_cases e : i = k
      · subst e; exact h.2
      · exact h.1 i (by omega)
    · intro h
      exact ⟨fun i hi => h i (by omega), h k (by omega)⟩

/-- The pattern with a backslash ahead of every byte. -/
def escG (a : Nat → Int) (i : Nat) : Int := if i % 2 = 0 then 92 else a (i / 2)
theorem escG_even (a : Nat → Int) (i : Nat) : escG a (2 * i) = 92 := by unfold escG; rw [if_pos (by omega)]
theorem escG_odd (a : Nat → Int) (i : Nat) : escG a (2 * i + 1) = a i := by
  unfold escG; rw [if_neg (by omega)]; congr 1; omega

theorem esc_A (a b : Nat → Int) (la lb : Nat) : ∀ d i, i + d = la → i ≤ lb → (A (escG a) (2 * la) b lb (2 * i) i = true ↔ (la = lb ∧ ∀ k, i ≤ k → k < la → a k = b k))
  | 0, i, h, hl => by
    have e : i = la := by omega
    subst e
    rw [A_end]
    simp only [decide_eq_true_eq]
    exact ⟨fun h => ⟨h, fun k h1 h2 => by omega⟩, fun h => h.1⟩
  | d + 1, i, h, hl => by
    have e0 := escG_even a i
    have hx : mNext (escG a) (2 * la) (2 * i) = 2 * (i + 1) := by
      unfold mNext
      rw [if_neg (by omega), e0, if_neg (by omega), if_pos rfl, if_pos (by omega)]; omega
    have hk : mOk (escG a) (2 * la) (2 * i) (b i) = (a i == b i) := by
      unfold mOk
      rw [if_neg (by omega), e0, if_neg (by omega), if_pos rfl, if_pos (by omega), escG_odd]
    rw [A_elem _ _ _ _ _ _ (by omega) hl (by rw [e0]; omega), hx, hk]
    by_cases hlt : i < lb
    · rw [decide_eq_true hlt, Bool.true_and, Bool.and_eq_true, esc_A a b la lb d (i + 1) (by omega) (by omega), beq_iff_eq]
      constructor
      · rintro ⟨h1, h2, h3⟩
        refine ⟨h2, fun k h4 h5 => ?_⟩
        by_cases e : k = i
        · subst e; exact h1
        · exact h3 k (by omega) h5
      · rintro ⟨h1, h2⟩
        exact ⟨h2 i (Nat.le_refl _) (by omega), h1, fun k h4 h5 => h2 k (by omega) h5⟩
    · rw [decide_eq_false hlt]
      simp only [Bool.false_and, Bool.false_eq_true, false_iff]
      intro hh; omega

theorem esc_law (a b : Nat → Int) (la lb : Nat) : A (escG a) (2 * la) b lb 0 0 = eqB a b la lb := by
  rw [Bool.eq_iff_iff]
  have := esc_A a b la lb la 0 (by omega) (by omega)
  rw [Nat.mul_zero] at this
  rw [this]
  unfold eqB
  rw [Bool.and_eq_true, decide_eq_true_eq, allB_iff]
  exact ⟨fun h => ⟨h.1, fun i hi => h.2 i (by omega) hi⟩, fun h => ⟨h.1, fun i _ hi => h.2 i hi⟩⟩
end Pl

set_option maxRecDepth 10000 in
theorem eqBytes_any (ao bo : Option Addr) (la ca lb cb : Nat) (a b : Nat → Int) (w : World) (hla : la ≤ 65536) (hlb : lb ≤ 65536) (HA : Hid (Pat w ao la a)) (HB : Hid (Pat w bo lb b)) :
    Calls Try.prog 16 #[.slice ao la ca, .slice bo lb cb] w fun e w' => e = .returned (.bool (Pl.eqB a b la lb)) ∧ ∃ j, w' = w.drewN j := by
  by_cases hne : la = lb
  · subst hne
    have h0 : ((la : Int) != (la : Int)) = false := by simp
    go_enter Try.func16, Try.ntmps16
    go_wp2
    go_loopg [5] la (fun k s5 wr => ∃ i j : Nat, s5 = .int .i64 i ∧ k + i = la ∧ Pl.allB a b i = true ∧ wr = w.drewN j)
    case atStart => exact ⟨0, 0, rfl, by omega, rfl, rfl⟩
    case round =>
      obtain ⟨i, j, rfl, hi, hall, rfl⟩ := hrel
      have HL : Hid (Pl.allB a b i = true) := hall
      clear hall
      by_cases hlt : i < la
      · rcases HA.out with h1 | ⟨ba, fa, rfl, hca⟩
        · omega
        rcases HB.out with h1 | ⟨bb, fb, rfl, hcb⟩
        · omega
        have c0 := hca i hlt
        have c1 := hcb i hlt
        have hlt' : (i : Int) < (la : Int) := by omega
        clear hca hcb
        cases hab : (a i != b i)
        · have HL2 : Hid (Pl.allB a b (i + 1) = true) := by
            show (Pl.allB a b i && (a i == b i)) = true
            rw [HL.out]; simpa using hab
          go_wp2
          go_quiet (fail)
          go_wp2
          go_roundg (gk - 1)
          case measure => omega
          case rel => go_light; exact ⟨i + 1, _, by go_num, by omega, HL2.out, rfl⟩
        · have HF : Hid (Pl.eqB a b la la = false) := by
            show (decide (la = la) && Pl.allB a b la) = false
            rw [Bool.and_eq_false_iff]
            refine .inr ?_
            cases e : Pl.allB a b la with
            | false => rfl
            | true => exact absurd ((Pl.allB_iff a b la).1 e i hlt) (by simpa using hab)
          go_wp2
          go_quiet (fail)
          go_wp2
          go_ret
          exact ⟨ret_bool HF.out.symm, _, World.drewN_drewN _ _ _⟩
      · have ei : i = la := by omega
        subst ei
        have HF : Hid (Pl.eqB a b i i = true) := by
          show (decide (i = i) && Pl.allB a b i) = true
          rw [HL.out]; simp
        go_wp2
        go_ret
        exact ⟨ret_bool HF.out.symm, _, rfl⟩
  · have h0 : ((la : Int) != (lb : Int)) = true := by simp; omega
    have HF : Hid (Pl.eqB a b la lb = false) := by
      show (decide (la = lb) && Pl.allB a b la) = false
      rw [decide_eq_false hne]; rfl
    clear hne
    go_enter Try.func16, Try.ntmps16
    go_wp2
    go_ret
    exact ⟨ret_bool HF.out.symm, drewN_same w⟩
/-- What the law knows of an argument. -/
def Came (w : World) (ao : Option Addr) (len cap : Nat) (g : Nat → Int) : Prop :=
  (ao = none ∧ len = 0 ∧ cap = 0) ∨ ∃ x, ao = some x ∧ ∀ i, i < len → w.cell? (x.add i) = some (.int .u8 (g i))

theorem Came.later {w w' : World} {ao : Option Addr} {len cap : Nat} {g : Nat → Int} (h : Came w ao len cap g) (hb : Below w.heap.size w w') : Came w' ao len cap g := by
  rcases h with h | ⟨x, h1, h2⟩
  · exact .inl h
  · refine .inr ⟨x, h1, fun i hi => ?_⟩
    have := h2 i hi
    rw [hb.cell (World.block_lt_of_cell? _ _ this)]
    exact this

theorem law_esc_small (ao bo : Option Addr) (la ca lb cb : Nat) (w : World) (ha : (la : Int) ≤ 9223372036854775807) (hb : (lb : Int) ≤ 9223372036854775807) (h : ¬ (la ≤ 65536 ∧ lb ≤ 65536)) :
    Calls Try.prog 4 #[.slice ao la ca, .slice bo lb cb] w fun e w' => e = .returned (.bool true) ∧ Below w.heap.size w w' := by
  by_cases h1 : 1048576 < la
  · go_enter Try.func4, Try.ntmps4
    go_wp2
    go_ret
    exact ⟨rfl, Below.refl _ _⟩
  by_cases h2 : 1048576 < lb
  · go_enter Try.func4, Try.ntmps4
    go_wp2
    go_ret
    exact ⟨rfl, Below.refl _ _⟩
  by_cases h3 : 1048576 < la + lb
  · go_enter Try.func4, Try.ntmps4
    go_wp2
    go_ret
    exact ⟨rfl, Below.refl _ _⟩
  by_cases h4 : 65536 < la
  · clear h
    go_enter Try.func4, Try.ntmps4
    go_wp2
    go_ret
    exact ⟨rfl, Below.refl _ _⟩
  · have h5 : 65536 < lb := by omega
    clear h
    go_enter Try.func4, Try.ntmps4
    go_wp2
    go_ret
    exact ⟨rfl, Below.refl _ _⟩

set_option maxRecDepth 10000 in
set_option maxHeartbeats 400000 in
theorem law_esc (ao bo : Option Addr) (la ca lb cb : Nat) (a b : Nat → Int) (w : World) (hla : (la : Int) ≤ 9223372036854775807) (hlb : (lb : Int) ≤ 9223372036854775807)
    (hra : Came w ao la ca a) (hrb : Came w bo lb cb b) :
    Calls Try.prog 4 #[.slice ao la ca, .slice bo lb cb] w fun e w' => e = .returned (.bool true) ∧ Below w.heap.size w w' := by
  by_cases hs : la ≤ 65536 ∧ lb ≤ 65536
  · obtain ⟨h1, h2⟩ := hs
    have HA : Hid _ := hra
    have HB : Hid _ := hrb
    clear hra hrb
    obtain ⟨i0, hi, hz0, hz1, hz2⟩ := info_parts Try.info5
    go_enter Try.func4, Try.ntmps4
    go_wp2_with (go_at_call 15; go_in)
    refine (clone_any ao la ca a w h1 HA.out).mono ?_
    rintro e w1 ⟨ao1, ca1, rfl, hao, hca, hb1, hs1⟩
    go_wp2_with fail
    refine (clone_any bo lb cb b w1 h2 (Came.later HB.out hb1)).mono ?_
    rintro e w2 ⟨bo1, cb1, rfl, hbo, hcb, hb2, hs2⟩
    have ew2 := hb2.size
    have ew1 := hb1.size
    go_wp2_with (at_make; refine wpList_make_full _ rfl _ _ 22 rfl w2.heap.size 5 i0 (.int .u8 0) 1 Try.underlying22 hi hz0 hz1 .i64 .i64 (2 * (la : Int)) (2 * (la : Int)) (2 * la) rfl rfl (by omega) (by omega) (by rw [hz2]; omega) (by unfold maxLen; omega) (Nat.le_refl _) ?_; intro w3 hown hgrow)
    have L0 : Laid w3 w2.heap.size w2.heap.size (2 * la) (2 * 0) (Pl.escG a) := ⟨_, hown, by simp [size_madeCells], fun i hi => by omega⟩
    have B0 : Below w2.heap.size w2 w3 := (Below.refl _ _).grown hgrow (Nat.le_refl _) (by simp)
    have S0 : 0 < la → w2.heap.size < w3.heap.size := fun h => by
      obtain ⟨v, hv⟩ := L0.old 0 (by omega)
      exact World.block_lt_of_cell? _ _ hv
    clear hown hgrow hi hz0 hz1 hz2
    have HS1 : Hid _ := hs1
    have HS2 : Hid _ := hs2
    have HCA : Hid _ := hca
    have HCB : Hid _ := hcb
    have HAO : Hid _ := hao
    have HBO : Hid _ := hbo
    clear hs1 hca hcb hao hbo HA HB hs2
    go_loopg [6] la (fun k s6 wr => ∃ i : Nat, s6 = .int .i64 i ∧ k + i = la ∧ Laid wr w2.heap.size w2.heap.size (2 * la) (2 * i) (Pl.escG a) ∧ Below w2.heap.size w2 wr)
    case atStart => exact ⟨0, rfl, by omega, L0, B0⟩
    case round =>
      obtain ⟨i, rfl, hif, L, B⟩ := hrel
      clear L0 B0
      by_cases hlt : i < la
      · rcases HAO.out with ⟨_, h0⟩ | rfl
        · omega
        have hsz := HS1.out (by omega)
        have c0 : w2.cell? ⟨w.heap.size, i, none⟩ = some (.int .u8 (a i)) := (hb2.cell (p := ⟨w.heap.size, i, none⟩) hsz).trans (HCA.out i hlt)
        have c1 : wr.cell? ⟨w.heap.size, i, none⟩ = some (.int .u8 (a i)) := (B.cell (p := ⟨w.heap.size, i, none⟩) (show w.heap.size < w2.heap.size by omega)).trans c0
        obtain ⟨v, c2⟩ := L.old (2 * i) (by omega)
        obtain ⟨v', c3⟩ := L.old (2 * i + 1) (by omega)
        have f2 := L.frozen (2 * i)
        have f3 := L.frozen (2 * i + 1)
        have LS := (L.step (by omega)).step (by omega)
        rw [Pl.escG_even, Pl.escG_odd] at LS
        have BS := (B.setCell (p := ⟨w2.heap.size, 2 * i, none⟩) (Nat.le_refl _) (.int .u8 92)).setCell (p := ⟨w2.heap.size, 2 * i + 1, none⟩) (Nat.le_refl _) (.int .u8 (a i))
        clear L B
        go_wp2
        go_roundg (gk - 1)
        case measure => omega
        case rel => go_light; exact ⟨i + 1, by go_num, by omega, LS, BS⟩
      · have ei : i = la := by omega
        subst ei
        have PM : Hid (Pat wr (some ⟨w2.heap.size, 0, none⟩) (2 * i) (Pl.escG a)) := .inr ⟨_, 0, rfl, fun k hk => by rw [Nat.zero_add]; exact L.cell k hk hk⟩
        have PA : Hid (Pat wr ao1 i a) := by
          rcases HAO.out with ⟨_, h0⟩ | h0
          · exact .inl h0
          · by_cases hz : i = 0
            · exact .inl hz
            have hsz := HS1.out (by omega)
            refine .inr ⟨w.heap.size, 0, h0, fun k hk => ?_⟩
            rw [Nat.zero_add]
            exact (B.cell (p := ⟨w.heap.size, k, none⟩) (show w.heap.size < w2.heap.size by omega)).trans ((hb2.cell (p := ⟨w.heap.size, k, none⟩) hsz).trans (HCA.out k hk))
        have PB : Hid (Pat wr bo1 lb b) := by
          rcases HBO.out with ⟨_, h0⟩ | h0
          · exact .inl h0
          · by_cases hz : lb = 0
            · exact .inl hz
            have hsz := HS2.out (by omega)
            refine .inr ⟨w1.heap.size, 0, h0, fun k hk => ?_⟩
            rw [Nat.zero_add]
            exact (B.cell (p := ⟨w1.heap.size, k, none⟩) (show w1.heap.size < w2.heap.size by omega)).trans (HCB.out k hk)
        have BF : Hid (Below w.heap.size w wr) := hb1.trans ((hb2.mono ew1).trans (B.mono (by omega)))
        have HE : Hid _ := Pl.esc_law a b i lb
        clear L B HS1 HS2 HCA HCB HAO HBO
        go_wp2_with fail
        refine (match_any (some ⟨w2.heap.size, 0, none⟩) bo1 (2 * i) (2 * i) lb cb1 (Pl.escG a) b wr (by omega) (by omega) PM PB).mono ?_
        rintro e w4 ⟨rfl, j, rfl⟩
        rw [HE.out]
        have PA2 : Hid _ := pat_drewN PA.out j
        have PB2 : Hid _ := pat_drewN PB.out j
        go_wp2_with fail
        refine (eqBytes_any ao1 bo1 i ca1 lb cb1 a b _ h1 h2 PA2 PB2).mono ?_
        rintro e w5 ⟨rfl, j2, rfl⟩
        generalize Pl.eqB a b i lb = x
        go_wp2
        go_ret
        exact ⟨ret_bool (by simp), below_drewN BF.out _⟩
  · exact law_esc_small ao bo la ca lb cb w hla hlb hs
end Go.Proofs.Qxb6602814a
