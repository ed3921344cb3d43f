/-
  THE LAW 'FnNextPairLongRunSettles', walked.
-/
import Derived.Test.Qxb6603276aRWalkB
import Derived.Test.Qxb6603276aRPlainRun
namespace Go.Proofs.Qxb6603276aR
open Go.RowKit

theorem it_step (k a b y : Nat) : Pl.it (k + 1) a b y = Pl.it k (Pl.np a b y).1 (Pl.np a b y).2 y := rfl

set_option maxRecDepth 10000 in
set_option maxHeartbeats 1000000 in
theorem law_long (a b y : Int) (w : World) (ha : a ≤ 9223372036854775807) (hb : b ≤ 9223372036854775807) :
    Calls Try.prog 7 #[.int .i64 a, .int .i64 b, .int .i64 y] w fun e w' => e = .returned (.bool true) ∧ Grown w w' := by
  by_cases h1 : a < 0
  · have d1 : decide (a < 0) = true := decide_eq_true h1
    go_enter Try.func7, Try.ntmps7
    go_wp2
    go_ret
    exact ⟨rfl, Grown.refl _⟩
  have d1 : decide (a < 0) = false := decide_eq_false h1
  by_cases h2 : b < 0
  · have d2 : decide (b < 0) = true := decide_eq_true h2
    clear h1
    go_enter Try.func7, Try.ntmps7
    go_wp2
    go_ret
    exact ⟨rfl, Grown.refl _⟩
  have d2 : decide (b < 0) = false := decide_eq_false h2
  by_cases h3 : y ≠ 0 ∧ y ≠ 1
  · have d3 : (y != 0) = true := by simpa using h3.1
    have d4 : (y != 1) = true := by simpa using h3.2
    clear h1 h2 h3
    go_enter Try.func7, Try.ntmps7
    go_wp2
    go_ret
    exact ⟨rfl, Grown.refl _⟩
  have hy : y = 0 ∨ y = 1 := by omega
  clear h3 d1 d2
  obtain ⟨a, rfl⟩ := Int.eq_ofNat_of_zero_le (by omega : 0 ≤ a)
  obtain ⟨b, rfl⟩ := Int.eq_ofNat_of_zero_le (by omega : 0 ≤ b)
  obtain ⟨y, rfl⟩ := Int.eq_ofNat_of_zero_le (by omega : 0 ≤ y)
  have hy : y = 0 ∨ y = 1 := by omega
  have d3 : ((y : Int) != 0) = false ∨ (((y : Int) != 0) = true ∧ ((y : Int) != 1) = false) := by
    rcases hy with rfl | rfl
    · exact .inl (by decide)
    · exact .inr ⟨by decide, by decide⟩
  clear h1 h2
  by_cases hv : Pl.var a b = 0
  · have HV : Hid (Pl.var a b = 0) := hv
    clear hv
    rcases d3 with d3 | ⟨d3, d4⟩
    · go_enter Try.func7, Try.ntmps7
      go_wp2_with (go_at_call 13; refine (zzVariants_any a b _ ha hb).mono ?_; rintro e w1 ⟨rfl, hG1⟩; rw [HV.out])
      go_ret
      exact ⟨rfl, hG1⟩
    · go_enter Try.func7, Try.ntmps7
      go_wp2_with (go_at_call 13; refine (zzVariants_any a b _ ha hb).mono ?_; rintro e w1 ⟨rfl, hG1⟩; rw [HV.out])
      go_ret
      exact ⟨rfl, hG1⟩
  · have HL : Hid (Pl.it 512 a b y = Pl.target a b y) := Pl.long_run a b y (by omega) hv
    have HX : Hid _ := Pl.target_fix a b y (by omega)
    have HV : Hid (Pl.var a b ≠ 0) := hv
    have v0 : ((Pl.var a b : Int) == 0) = false := by simp; omega
    clear hv
    clear d3
    rcases hy with rfl | rfl
    · by_cases hz : 0 < b
      · have TGT : Pl.target a b 0 = (48, 1) := by unfold Pl.target; rw [if_pos rfl, if_pos hz]
        have hz' : (0 : Int) < (b : Int) := by omega
        have HT : Hid (Pl.it 512 a b 0 = (48, 1)) := HL.out.trans TGT
        have HFX : Hid (Pl.np 48 1 0 = (48, 1)) := by have := HX.out; rw [show Pl.target a b 0 = (48, 1) from TGT] at this; exact this
        clear HL HX
        go_enter Try.func7, Try.ntmps7
        go_wp2_with fail
        refine (zzVariants_any a b w ha hb).mono ?_
        rintro e w1 ⟨rfl, hG1⟩
        have HG1 : Hid (Grown w w1) := hG1
        clear hG1
        go_wp2_with fail
        go_loopg [7, 8, 9] 512 (fun k s7 s8 s9 wr => ∃ i c d : Nat, s7 = .int .i64 c ∧ s8 = .int .i64 d ∧ s9 = .int .i64 i ∧ k + i = 512 ∧ Pl.var c d ≠ 0 ∧ Pl.it k c d 0 = (48, 1) ∧ Grown w wr)
        case atStart => exact ⟨0, a, b, rfl, rfl, rfl, rfl, HV.out, HT.out, HG1.out⟩
        case round =>
          rename World => wx
          obtain ⟨i, c, d, rfl, rfl, rfl, hi, hcd, hit, hG⟩ := hrel
          have HCD : Hid (Pl.var c d ≠ 0) := hcd
          have HI : Hid (Pl.it gk c d 0 = (48, 1)) := hit
          have HG : Hid (Grown w wx) := hG
          have hcl := Pl.var_le c d hcd
          have hc1 : c ≤ 48 := hcl.1
          have hd1 : d ≤ 48 := hcl.2.1
          clear hcd hit hG hcl HT HG1
          by_cases hlt : i < 512
          · obtain ⟨k, rfl⟩ : ∃ k, gk = k + 1 := ⟨gk - 1, by omega⟩
            have HN : Hid (Pl.var (Pl.np c d 0).1 (Pl.np c d 0).2 ≠ 0) := (Pl.lands_at c d 0 (by omega) HCD.out).2.1
            have HI2 : Hid (Pl.it k (Pl.np c d 0).1 (Pl.np c d 0).2 0 = (48, 1)) := HI.out
            go_wp2_with (go_at_call 14; refine (zzNextPair_any c d 0 wx HCD.out (by omega)).mono ?_; rintro e w2 ⟨rfl, hG2⟩)
            have HG2 : Hid (Grown w w2) := grown_trans HG.out hG2
            go_roundg k
            case measure => omega
            case rel => go_light; exact ⟨i + 1, (Pl.np c d 0).1, (Pl.np c d 0).2, rfl, rfl, by go_num, by omega, HN.out, HI2.out, HG2.out⟩
          · have hk0 : gk = 0 := by omega
            subst hk0
            have HE : Hid (c = 48 ∧ d = 1) := by have := HI.out; simp only [Pl.it, Prod.mk.injEq] at this; exact this
            have q1 : ((c : Int) != 48) = false := by rw [HE.out.1]; decide
            have q2 : ((d : Int) != 1) = false := by rw [HE.out.2]; decide
            have HFX2 : Hid (Pl.np c d 0 = (c, d)) := by rw [HE.out.1, HE.out.2]; exact HFX.out
            clear HI
            go_wp2_with fail
            refine (zzNextPair_any c d 0 wx HCD.out (by omega)).mono ?_
            rintro e w2 ⟨rfl, hG2⟩
            rw [HFX2.out]
            have HG2 : Hid (Grown w w2) := grown_trans HG.out hG2
            clear hG2
            go_wp2
            go_ret
            exact ⟨rfl, HG2.out⟩
      · have TGT : Pl.target a b 0 = (20, 0) := by unfold Pl.target; rw [if_pos rfl, if_neg hz]
        have hz' : ¬ (0 : Int) < (b : Int) := by omega
        have HT : Hid (Pl.it 512 a b 0 = (20, 0)) := HL.out.trans TGT
        have HFX : Hid (Pl.np 20 0 0 = (20, 0)) := by have := HX.out; rw [show Pl.target a b 0 = (20, 0) from TGT] at this; exact this
        clear HL HX
        go_enter Try.func7, Try.ntmps7
        go_wp2_with fail
        refine (zzVariants_any a b w ha hb).mono ?_
        rintro e w1 ⟨rfl, hG1⟩
        have HG1 : Hid (Grown w w1) := hG1
        clear hG1
        go_wp2_with fail
        go_loopg [7, 8, 9] 512 (fun k s7 s8 s9 wr => ∃ i c d : Nat, s7 = .int .i64 c ∧ s8 = .int .i64 d ∧ s9 = .int .i64 i ∧ k + i = 512 ∧ Pl.var c d ≠ 0 ∧ Pl.it k c d 0 = (20, 0) ∧ Grown w wr)
        case atStart => exact ⟨0, a, b, rfl, rfl, rfl, rfl, HV.out, HT.out, HG1.out⟩
        case round =>
          rename World => wx
          obtain ⟨i, c, d, rfl, rfl, rfl, hi, hcd, hit, hG⟩ := hrel
          have HCD : Hid (Pl.var c d ≠ 0) := hcd
          have HI : Hid (Pl.it gk c d 0 = (20, 0)) := hit
          have HG : Hid (Grown w wx) := hG
          have hcl := Pl.var_le c d hcd
          have hc1 : c ≤ 48 := hcl.1
          have hd1 : d ≤ 48 := hcl.2.1
          clear hcd hit hG hcl HT HG1
          by_cases hlt : i < 512
          · obtain ⟨k, rfl⟩ : ∃ k, gk = k + 1 := ⟨gk - 1, by omega⟩
            have HN : Hid (Pl.var (Pl.np c d 0).1 (Pl.np c d 0).2 ≠ 0) := (Pl.lands_at c d 0 (by omega) HCD.out).2.1
            have HI2 : Hid (Pl.it k (Pl.np c d 0).1 (Pl.np c d 0).2 0 = (20, 0)) := HI.out
            go_wp2_with (go_at_call 14; refine (zzNextPair_any c d 0 wx HCD.out (by omega)).mono ?_; rintro e w2 ⟨rfl, hG2⟩)
            have HG2 : Hid (Grown w w2) := grown_trans HG.out hG2
            go_roundg k
            case measure => omega
            case rel => go_light; exact ⟨i + 1, (Pl.np c d 0).1, (Pl.np c d 0).2, rfl, rfl, by go_num, by omega, HN.out, HI2.out, HG2.out⟩
          · have hk0 : gk = 0 := by omega
            subst hk0
            have HE : Hid (c = 20 ∧ d = 0) := by have := HI.out; simp only [Pl.it, Prod.mk.injEq] at this; exact this
            have q1 : ((c : Int) != 20) = false := by rw [HE.out.1]; decide
            have q2 : ((d : Int) != 0) = false := by rw [HE.out.2]; decide
            have HFX2 : Hid (Pl.np c d 0 = (c, d)) := by rw [HE.out.1, HE.out.2]; exact HFX.out
            clear HI
            go_wp2_with fail
            refine (zzNextPair_any c d 0 wx HCD.out (by omega)).mono ?_
            rintro e w2 ⟨rfl, hG2⟩
            rw [HFX2.out]
            have HG2 : Hid (Grown w w2) := grown_trans HG.out hG2
            clear hG2
            go_wp2
            go_ret
            exact ⟨rfl, HG2.out⟩
    · by_cases hz : 0 < a
      · have TGT : Pl.target a b 1 = (1, 48) := by unfold Pl.target; rw [if_neg (by omega), if_pos hz]
        have hz' : (0 : Int) < (a : Int) := by omega
        have HT : Hid (Pl.it 512 a b 1 = (1, 48)) := HL.out.trans TGT
        have HFX : Hid (Pl.np 1 48 1 = (1, 48)) := by have := HX.out; rw [show Pl.target a b 1 = (1, 48) from TGT] at this; exact this
        clear HL HX
        go_enter Try.func7, Try.ntmps7
        go_wp2_with fail
        refine (zzVariants_any a b w ha hb).mono ?_
        rintro e w1 ⟨rfl, hG1⟩
        have HG1 : Hid (Grown w w1) := hG1
        clear hG1
        go_wp2_with fail
        go_loopg [7, 8, 9] 512 (fun k s7 s8 s9 wr => ∃ i c d : Nat, s7 = .int .i64 c ∧ s8 = .int .i64 d ∧ s9 = .int .i64 i ∧ k + i = 512 ∧ Pl.var c d ≠ 0 ∧ Pl.it k c d 1 = (1, 48) ∧ Grown w wr)
        case atStart => exact ⟨0, a, b, rfl, rfl, rfl, rfl, HV.out, HT.out, HG1.out⟩
        case round =>
          rename World => wx
          obtain ⟨i, c, d, rfl, rfl, rfl, hi, hcd, hit, hG⟩ := hrel
          have HCD : Hid (Pl.var c d ≠ 0) := hcd
          have HI : Hid (Pl.it gk c d 1 = (1, 48)) := hit
          have HG : Hid (Grown w wx) := hG
          have hcl := Pl.var_le c d hcd
          have hc1 : c ≤ 48 := hcl.1
          have hd1 : d ≤ 48 := hcl.2.1
          clear hcd hit hG hcl HT HG1
          by_cases hlt : i < 512
          · obtain ⟨k, rfl⟩ : ∃ k, gk = k + 1 := ⟨gk - 1, by omega⟩
            have HN : Hid (Pl.var (Pl.np c d 1).1 (Pl.np c d 1).2 ≠ 0) := (Pl.lands_at c d 1 (by omega) HCD.out).2.1
            have HI2 : Hid (Pl.it k (Pl.np c d 1).1 (Pl.np c d 1).2 1 = (1, 48)) := HI.out
            go_wp2_with (go_at_call 14; refine (zzNextPair_any c d 1 wx HCD.out (by omega)).mono ?_; rintro e w2 ⟨rfl, hG2⟩)
            have HG2 : Hid (Grown w w2) := grown_trans HG.out hG2
            go_roundg k
            case measure => omega
            case rel => go_light; exact ⟨i + 1, (Pl.np c d 1).1, (Pl.np c d 1).2, rfl, rfl, by go_num, by omega, HN.out, HI2.out, HG2.out⟩
          · have hk0 : gk = 0 := by omega
            subst hk0
            have HE : Hid (c = 1 ∧ d = 48) := by have := HI.out; simp only [Pl.it, Prod.mk.injEq] at this; exact this
            have q1 : ((c : Int) != 1) = false := by rw [HE.out.1]; decide
            have q2 : ((d : Int) != 48) = false := by rw [HE.out.2]; decide
            have HFX2 : Hid (Pl.np c d 1 = (c, d)) := by rw [HE.out.1, HE.out.2]; exact HFX.out
            clear HI
            go_wp2_with fail
            refine (zzNextPair_any c d 1 wx HCD.out (by omega)).mono ?_
            rintro e w2 ⟨rfl, hG2⟩
            rw [HFX2.out]
            have HG2 : Hid (Grown w w2) := grown_trans HG.out hG2
            clear hG2
            go_wp2
            go_ret
            exact ⟨rfl, HG2.out⟩
      · have TGT : Pl.target a b 1 = (0, 20) := by unfold Pl.target; rw [if_neg (by omega), if_neg hz]
        have hz' : ¬ (0 : Int) < (a : Int) := by omega
        have HT : Hid (Pl.it 512 a b 1 = (0, 20)) := HL.out.trans TGT
        have HFX : Hid (Pl.np 0 20 1 = (0, 20)) := by have := HX.out; rw [show Pl.target a b 1 = (0, 20) from TGT] at this; exact this
        clear HL HX
        go_enter Try.func7, Try.ntmps7
        go_wp2_with fail
        refine (zzVariants_any a b w ha hb).mono ?_
        rintro e w1 ⟨rfl, hG1⟩
        have HG1 : Hid (Grown w w1) := hG1
        clear hG1
        go_wp2_with fail
        go_loopg [7, 8, 9] 512 (fun k s7 s8 s9 wr => ∃ i c d : Nat, s7 = .int .i64 c ∧ s8 = .int .i64 d ∧ s9 = .int .i64 i ∧ k + i = 512 ∧ Pl.var c d ≠ 0 ∧ Pl.it k c d 1 = (0, 20) ∧ Grown w wr)
        case atStart => exact ⟨0, a, b, rfl, rfl, rfl, rfl, HV.out, HT.out, HG1.out⟩
        case round =>
          rename World => wx
          obtain ⟨i, c, d, rfl, rfl, rfl, hi, hcd, hit, hG⟩ := hrel
          have HCD : Hid (Pl.var c d ≠ 0) := hcd
          have HI : Hid (Pl.it gk c d 1 = (0, 20)) := hit
          have HG : Hid (Grown w wx) := hG
          have hcl := Pl.var_le c d hcd
          have hc1 : c ≤ 48 := hcl.1
          have hd1 : d ≤ 48 := hcl.2.1
          clear hcd hit hG hcl HT HG1
          by_cases hlt : i < 512
          · obtain ⟨k, rfl⟩ : ∃ k, gk = k + 1 := ⟨gk - 1, by omega⟩
            have HN : Hid (Pl.var (Pl.np c d 1).1 (Pl.np c d 1).2 ≠ 0) := (Pl.lands_at c d 1 (by omega) HCD.out).2.1
            have HI2 : Hid (Pl.it k (Pl.np c d 1).1 (Pl.np c d 1).2 1 = (0, 20)) := HI.out
            go_wp2_with (go_at_call 14; refine (zzNextPair_any c d 1 wx HCD.out (by omega)).mono ?_; rintro e w2 ⟨rfl, hG2⟩)
            have HG2 : Hid (Grown w w2) := grown_trans HG.out hG2
            go_roundg k
            case measure => omega
            case rel => go_light; exact ⟨i + 1, (Pl.np c d 1).1, (Pl.np c d 1).2, rfl, rfl, by go_num, by omega, HN.out, HI2.out, HG2.out⟩
          · have hk0 : gk = 0 := by omega
            subst hk0
            have HE : Hid (c = 0 ∧ d = 20) := by have := HI.out; simp only [Pl.it, Prod.mk.injEq] at this; exact this
            have q1 : ((c : Int) != 0) = false := by rw [HE.out.1]; decide
            have q2 : ((d : Int) != 20) = false := by rw [HE.out.2]; decide
            have HFX2 : Hid (Pl.np c d 1 = (c, d)) := by rw [HE.out.1, HE.out.2]; exact HFX.out
            clear HI
            go_wp2_with fail
            refine (zzNextPair_any c d 1 wx HCD.out (by omega)).mono ?_
            rintro e w2 ⟨rfl, hG2⟩
            rw [HFX2.out]
            have HG2 : Hid (Grown w w2) := grown_trans HG.out hG2
            clear hG2
            go_wp2
            go_ret
            exact ⟨rfl, HG2.out⟩
end Go.Proofs.Qxb6603276aR
