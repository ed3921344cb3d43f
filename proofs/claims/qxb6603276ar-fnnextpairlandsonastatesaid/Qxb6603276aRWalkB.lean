/-
  THE WALKS of discount and nextPair.
-/
import Derived.Test.Qxb6603276aRWalkA
namespace Go.Proofs.Qxb6603276aR
open Go.RowKit

def atl (i : Nat) : Nat := if i = 0 then 1 else if i = 1 then 2 else if i = 2 then 3 else if i = 3 then 4 else if i = 4 then 5 else if i = 5 then 7 else 8
def dsum (n : Nat) : Nat → Nat
  | 0 => 0
  | i + 1 => dsum n i + Pl.b2n (decide (atl i ≤ n))
theorem dsum_7 (n : Nat) : dsum n 7 = Pl.disc n := by
  simp [dsum, Pl.disc, atl]
theorem dsum_yes (n i : Nat) (h : atl i ≤ n) : dsum n (i + 1) = dsum n i + 1 := by simp [dsum, Pl.b2n, h]
theorem dsum_no (n i : Nat) (h : ¬ atl i ≤ n) : dsum n (i + 1) = dsum n i := by simp [dsum, Pl.b2n, h]
theorem dsum_le (n i : Nat) : dsum n i ≤ i := by
  induction i with
  | zero => simp [dsum]
  | succ i ih => unfold dsum Pl.b2n; split <;> omega

set_option maxRecDepth 10000 in
theorem discount_any (n : Nat) (w : World) (hn : n ≤ 1000) :
    Calls Try.prog 18 #[.int .i64 n] w fun e w' => e = .returned (.int .i64 (Pl.disc n : Nat)) ∧ Grown w w' := by
  go_enter Try.func18, Try.ntmps18
  go_wp2
  have HW : Hid (Grown w (w.alloc (.cells #[.int .i64 1, .int .i64 2, .int .i64 3, .int .i64 4, .int .i64 5, .int .i64 7, .int .i64 8] 3))) := (Grown.refl w).alloc _ _
  go_loopg [8, 3] 7 (fun f s8 s3 wr => ∃ i : Nat, s8 = .int .i64 (i : Int) ∧ s3 = .int .i64 (dsum n i : Nat) ∧ f + i = 7 ∧ w.alloc (.cells #[.int .i64 1, .int .i64 2, .int .i64 3, .int .i64 4, .int .i64 5, .int .i64 7, .int .i64 8] 3) = wr)
  case atStart => exact ⟨0, rfl, rfl, by omega, rfl⟩
  case round =>
    obtain ⟨i, rfl, rfl, hi, rfl⟩ := hrel
    have hd := dsum_le n i
    by_cases h7 : i = 7
    · subst h7
      have HF : Hid _ := dsum_7 n
      go_wp2
      go_ret
      exact ⟨ret_int (by rw [HF.out]), HW.out⟩
    · have : i = 0 ∨ i = 1 ∨ i = 2 ∨ i = 3 ∨ i = 4 ∨ i = 5 ∨ i = 6 := by omega
      rcases this with rfl | rfl | rfl | rfl | rfl | rfl | rfl
      · by_cases ha : 1 ≤ n
        · have HD : Hid _ := dsum_yes n 0 ha
          go_wp2
          go_roundg 6
          case measure => omega
          case rel => go_light; exact ⟨1, rfl, by rw [HD.out]; go_num, by omega, rfl⟩
        · have HD : Hid _ := dsum_no n 0 ha
          go_wp2
          go_roundg 6
          case measure => omega
          case rel => go_light; exact ⟨1, rfl, by rw [HD.out], by omega, rfl⟩
      · by_cases ha : 2 ≤ n
        · have HD : Hid _ := dsum_yes n 1 ha
          go_wp2
          go_roundg 5
          case measure => omega
          case rel => go_light; exact ⟨2, rfl, by rw [HD.out]; go_num, by omega, rfl⟩
        · have HD : Hid _ := dsum_no n 1 ha
          go_wp2
          go_roundg 5
          case measure => omega
          case rel => go_light; exact ⟨2, rfl, by rw [HD.out], by omega, rfl⟩
      · by_cases ha : 3 ≤ n
        · have HD : Hid _ := dsum_yes n 2 ha
          go_wp2
          go_roundg 4
          case measure => omega
          case rel => go_light; exact ⟨3, rfl, by rw [HD.out]; go_num, by omega, rfl⟩
        · have HD : Hid _ := dsum_no n 2 ha
          go_wp2
          go_roundg 4
          case measure => omega
          case rel => go_light; exact ⟨3, rfl, by rw [HD.out], by omega, rfl⟩
      · by_cases ha : 4 ≤ n
        · have HD : Hid _ := dsum_yes n 3 ha
          go_wp2
          go_roundg 3
          case measure => omega
          case rel => go_light; exact ⟨4, rfl, by rw [HD.out]; go_num, by omega, rfl⟩
        · have HD : Hid _ := dsum_no n 3 ha
          go_wp2
          go_roundg 3
          case measure => omega
          case rel => go_light; exact ⟨4, rfl, by rw [HD.out], by omega, rfl⟩
      · by_cases ha : 5 ≤ n
        · have HD : Hid _ := dsum_yes n 4 ha
          go_wp2
          go_roundg 2
          case measure => omega
          case rel => go_light; exact ⟨5, rfl, by rw [HD.out]; go_num, by omega, rfl⟩
        · have HD : Hid _ := dsum_no n 4 ha
          go_wp2
          go_roundg 2
          case measure => omega
          case rel => go_light; exact ⟨5, rfl, by rw [HD.out], by omega, rfl⟩
      · by_cases ha : 7 ≤ n
        · have HD : Hid _ := dsum_yes n 5 ha
          go_wp2
          go_roundg 1
          case measure => omega
          case rel => go_light; exact ⟨6, rfl, by rw [HD.out]; go_num, by omega, rfl⟩
        · have HD : Hid _ := dsum_no n 5 ha
          go_wp2
          go_roundg 1
          case measure => omega
          case rel => go_light; exact ⟨6, rfl, by rw [HD.out], by omega, rfl⟩
      · by_cases ha : 8 ≤ n
        · have HD : Hid _ := dsum_yes n 6 ha
          go_wp2
          go_roundg 0
          case measure => omega
          case rel => go_light; exact ⟨7, rfl, by rw [HD.out]; go_num, by omega, rfl⟩
        · have HD : Hid _ := dsum_no n 6 ha
          go_wp2
          go_roundg 0
          case measure => omega
          case rel => go_light; exact ⟨7, rfl, by rw [HD.out], by omega, rfl⟩

theorem red_stop (f a b : Nat) (h : Pl.var a b ≠ 0) : Pl.red f a b = (a, b) := by
  cases f with
  | zero => rfl
  | succ f => unfold Pl.red; rw [if_neg h]
theorem red_low (f a b : Nat) (h : Pl.var a b = 0) (hb : b < 2) : Pl.red (f + 1) a b = Pl.red f (a - 1) b := by
  conv => lhs; unfold Pl.red
  rw [if_pos h]; unfold Pl.down; rw [if_pos hb]
theorem red_down (f a b : Nat) (h : Pl.var a b = 0) (hb : ¬ b < 2) : Pl.red (f + 1) a b = Pl.red f ((a * (b - 1) + b / 2) / b) (b - 1) := by
  conv => lhs; unfold Pl.red
  rw [if_pos h]; unfold Pl.down; rw [if_neg hb]
theorem var_pos (a b : Nat) (hb : b < 2) (h : Pl.var a b = 0) : 1 ≤ a := by
  rcases Nat.eq_zero_or_pos a with rfl | h1
  · have : b = 0 ∨ b = 1 := by omega
    rcases this with rfl | rfl
    · exact absurd h (by decide)
    · exact absurd h (by decide)
  · exact h1

theorem ret_pair {a b : Int} {x y : Nat} (R : Nat × Nat) (h : R = (x, y)) (ha : a = x) (hb : b = y) : Ending.returned (.tuple #[.int .i64 a, .int .i64 b]) = .returned (.tuple #[.int .i64 (R.1 : Nat), .int .i64 (R.2 : Nat)]) := by
  subst h; rw [ha, hb]

set_option maxRecDepth 10000 in
set_option maxHeartbeats 1000000 in
theorem nextPair_ge (a0 b0 y : Nat) (w : World) (hab : b0 ≤ a0) (ha0 : a0 ≤ 48) (hb0 : b0 ≤ 5) (hy : y = 0 ∨ y = 1) :
    Calls Try.prog 17 #[.int .i64 a0, .int .i64 b0, .int .i64 y] w fun e w' => e = .returned (.tuple #[.int .i64 ((Pl.npge a0 b0 y).1 : Nat), .int .i64 ((Pl.npge a0 b0 y).2 : Nat)]) ∧ Grown w w' := by
  obtain ⟨R, hR⟩ : ∃ R, R = Pl.npge a0 b0 y := ⟨_, rfl⟩
  rw [← hR]
  rcases hy with rfl | rfl
  · have HR : Hid (R = Pl.red (64 * Pl.disc b0 + (a0 + 1)) (a0 + 1) (Pl.disc b0)) := by rw [hR]; rfl
    have hda := (Pl.disc_le b0).2
    clear hR
    go_enter Try.func17, Try.ntmps17
    go_wp2_with (go_at_call 18; refine (discount_any b0 _ (by omega)).mono ?_; rintro e w1 ⟨rfl, hG1⟩)
    generalize Pl.disc b0 = b1 at *
    go_loopg [0, 1] (64 * b1 + (a0 + 1)) (fun f s0 s1 wr => ∃ a b : Nat, s0 = .int .i64 a ∧ s1 = .int .i64 b ∧ a ≤ 49 ∧ b ≤ 6 ∧ 64 * b + a ≤ f ∧ R = Pl.red f a b ∧ Grown w wr)
    case atStart => exact ⟨a0 + 1, b1, by go_num, rfl, by omega, by omega, by omega, HR.out, hG1⟩
    case round =>
      rename World => wx
      obtain ⟨a, b, rfl, rfl, ha, hb, hf, hr, hG⟩ := hrel
      clear HR
      have HR : Hid (R = Pl.red gk a b) := hr
      clear hr
      by_cases hv : Pl.var a b = 0
      · have hpos : 1 ≤ gk := by
          by_cases h2 : b < 2
          · have := var_pos a b h2 hv; omega
          · omega
        obtain ⟨f, rfl⟩ : ∃ f, gk = f + 1 := ⟨gk - 1, by omega⟩
        have HV : Hid (Pl.var a b = 0) := hv
        clear hv
        go_wp2_with fail
        refine (variants_any a b wx (by omega) (by omega)).mono ?_
        rintro e w2 ⟨rfl, hG'⟩
        rw [HV.out]
        have hG2 := grown_trans hG hG'
        clear hG hG'
        have : b = 0 ∨ b = 1 ∨ b = 2 ∨ b = 3 ∨ b = 4 ∨ b = 5 ∨ b = 6 := by omega
        rcases this with rfl | rfl | rfl | rfl | rfl | rfl | rfl
        · have h1 := var_pos a 0 (by omega) HV.out
          have HD : Hid _ := red_low f a 0 HV.out (by omega)
          go_wp2
          go_roundg f
          case measure => omega
          case rel => go_light; exact ⟨a - 1, 0, by go_num, rfl, by omega, by omega, by omega, HR.out.trans HD.out, hG2⟩
        · have h1 := var_pos a 1 (by omega) HV.out
          have HD : Hid _ := red_low f a 1 HV.out (by omega)
          go_wp2
          go_roundg f
          case measure => omega
          case rel => go_light; exact ⟨a - 1, 1, by go_num, rfl, by omega, by omega, by omega, HR.out.trans HD.out, hG2⟩
        · have HD : Hid (Pl.red (f + 1) a 2 = Pl.red f ((a * 1 + 1) / 2) 1) := red_down f a 2 HV.out (by omega)
          go_wp2
          go_roundg f
          case measure => omega
          case rel => go_light; exact ⟨(a * 1 + 1) / 2, 1, by go_num, rfl, by omega, by omega, by omega, HR.out.trans HD.out, hG2⟩
        · have HD : Hid (Pl.red (f + 1) a 3 = Pl.red f ((a * 2 + 1) / 3) 2) := red_down f a 3 HV.out (by omega)
          go_wp2
          go_roundg f
          case measure => omega
          case rel => go_light; exact ⟨(a * 2 + 1) / 3, 2, by go_num, rfl, by omega, by omega, by omega, HR.out.trans HD.out, hG2⟩
        · have HD : Hid (Pl.red (f + 1) a 4 = Pl.red f ((a * 3 + 2) / 4) 3) := red_down f a 4 HV.out (by omega)
          go_wp2
          go_roundg f
          case measure => omega
          case rel => go_light; exact ⟨(a * 3 + 2) / 4, 3, by go_num, rfl, by omega, by omega, by omega, HR.out.trans HD.out, hG2⟩
        · have HD : Hid (Pl.red (f + 1) a 5 = Pl.red f ((a * 4 + 2) / 5) 4) := red_down f a 5 HV.out (by omega)
          go_wp2
          go_roundg f
          case measure => omega
          case rel => go_light; exact ⟨(a * 4 + 2) / 5, 4, by go_num, rfl, by omega, by omega, by omega, HR.out.trans HD.out, hG2⟩
        · have HD : Hid (Pl.red (f + 1) a 6 = Pl.red f ((a * 5 + 3) / 6) 5) := red_down f a 6 HV.out (by omega)
          go_wp2
          go_roundg f
          case measure => omega
          case rel => go_light; exact ⟨(a * 5 + 3) / 6, 5, by go_num, rfl, by omega, by omega, by omega, HR.out.trans HD.out, hG2⟩
      · have HF : Hid (R = (a, b)) := HR.out.trans (red_stop gk a b hv)
        have hv' : ((Pl.var a b : Int) == 0) = false := by simp; omega
        go_wp2_with fail
        refine (variants_any a b wx (by omega) (by omega)).mono ?_
        rintro e w2 ⟨rfl, hG'⟩
        have hG2 := grown_trans hG hG'
        clear hG hG'
        go_wp2
        go_ret2
        exact ⟨ret_pair R HF.out rfl rfl, hG2⟩
  · have HR : Hid (R = Pl.red (64 * (b0 + 1) + Pl.disc a0) (Pl.disc a0) (b0 + 1)) := by rw [hR]; rfl
    have hda := (Pl.disc_le a0).1
    clear hR
    go_enter Try.func17, Try.ntmps17
    go_wp2_with (go_at_call 18; refine (discount_any a0 _ (by omega)).mono ?_; rintro e w1 ⟨rfl, hG1⟩)
    generalize Pl.disc a0 = a1 at *
    go_loopg [0, 1] (64 * (b0 + 1) + a1) (fun f s0 s1 wr => ∃ a b : Nat, s0 = .int .i64 a ∧ s1 = .int .i64 b ∧ a ≤ 49 ∧ b ≤ 6 ∧ 64 * b + a ≤ f ∧ R = Pl.red f a b ∧ Grown w wr)
    case atStart => exact ⟨a1, b0 + 1, rfl, by go_num, by omega, by omega, by omega, HR.out, hG1⟩
    case round =>
      rename World => wx
      obtain ⟨a, b, rfl, rfl, ha, hb, hf, hr, hG⟩ := hrel
      clear HR
      have HR : Hid (R = Pl.red gk a b) := hr
      clear hr
      by_cases hv : Pl.var a b = 0
      · have hpos : 1 ≤ gk := by
          by_cases h2 : b < 2
          · have := var_pos a b h2 hv; omega
          · omega
        obtain ⟨f, rfl⟩ : ∃ f, gk = f + 1 := ⟨gk - 1, by omega⟩
        have HV : Hid (Pl.var a b = 0) := hv
        clear hv
        go_wp2_with fail
        refine (variants_any a b wx (by omega) (by omega)).mono ?_
        rintro e w2 ⟨rfl, hG'⟩
        rw [HV.out]
        have hG2 := grown_trans hG hG'
        clear hG hG'
        have : b = 0 ∨ b = 1 ∨ b = 2 ∨ b = 3 ∨ b = 4 ∨ b = 5 ∨ b = 6 := by omega
        rcases this with rfl | rfl | rfl | rfl | rfl | rfl | rfl
        · have h1 := var_pos a 0 (by omega) HV.out
          have HD : Hid _ := red_low f a 0 HV.out (by omega)
          go_wp2
          go_roundg f
          case measure => omega
          case rel => go_light; exact ⟨a - 1, 0, by go_num, rfl, by omega, by omega, by omega, HR.out.trans HD.out, hG2⟩
        · have h1 := var_pos a 1 (by omega) HV.out
          have HD : Hid _ := red_low f a 1 HV.out (by omega)
          go_wp2
          go_roundg f
          case measure => omega
          case rel => go_light; exact ⟨a - 1, 1, by go_num, rfl, by omega, by omega, by omega, HR.out.trans HD.out, hG2⟩
        · have HD : Hid (Pl.red (f + 1) a 2 = Pl.red f ((a * 1 + 1) / 2) 1) := red_down f a 2 HV.out (by omega)
          go_wp2
          go_roundg f
          case measure => omega
          case rel => go_light; exact ⟨(a * 1 + 1) / 2, 1, by go_num, rfl, by omega, by omega, by omega, HR.out.trans HD.out, hG2⟩
        · have HD : Hid (Pl.red (f + 1) a 3 = Pl.red f ((a * 2 + 1) / 3) 2) := red_down f a 3 HV.out (by omega)
          go_wp2
          go_roundg f
          case measure => omega
          case rel => go_light; exact ⟨(a * 2 + 1) / 3, 2, by go_num, rfl, by omega, by omega, by omega, HR.out.trans HD.out, hG2⟩
        · have HD : Hid (Pl.red (f + 1) a 4 = Pl.red f ((a * 3 + 2) / 4) 3) := red_down f a 4 HV.out (by omega)
          go_wp2
          go_roundg f
          case measure => omega
          case rel => go_light; exact ⟨(a * 3 + 2) / 4, 3, by go_num, rfl, by omega, by omega, by omega, HR.out.trans HD.out, hG2⟩
        · have HD : Hid (Pl.red (f + 1) a 5 = Pl.red f ((a * 4 + 2) / 5) 4) := red_down f a 5 HV.out (by omega)
          go_wp2
          go_roundg f
          case measure => omega
          case rel => go_light; exact ⟨(a * 4 + 2) / 5, 4, by go_num, rfl, by omega, by omega, by omega, HR.out.trans HD.out, hG2⟩
        · have HD : Hid (Pl.red (f + 1) a 6 = Pl.red f ((a * 5 + 3) / 6) 5) := red_down f a 6 HV.out (by omega)
          go_wp2
          go_roundg f
          case measure => omega
          case rel => go_light; exact ⟨(a * 5 + 3) / 6, 5, by go_num, rfl, by omega, by omega, by omega, HR.out.trans HD.out, hG2⟩
      · have HF : Hid (R = (a, b)) := HR.out.trans (red_stop gk a b hv)
        have hv' : ((Pl.var a b : Int) == 0) = false := by simp; omega
        go_wp2_with fail
        refine (variants_any a b wx (by omega) (by omega)).mono ?_
        rintro e w2 ⟨rfl, hG'⟩
        have hG2 := grown_trans hG hG'
        clear hG hG'
        go_wp2
        go_ret2
        exact ⟨ret_pair R HF.out rfl rfl, hG2⟩

theorem nextPair_any (a b y : Nat) (w : World) (h : Pl.var a b ≠ 0) (hy : y = 0 ∨ y = 1) :
    Calls Try.prog 17 #[.int .i64 a, .int .i64 b, .int .i64 y] w fun e w' => e = .returned (.tuple #[.int .i64 ((Pl.np a b y).1 : Nat), .int .i64 ((Pl.np a b y).2 : Nat)]) ∧ Grown w w' := by
  have hl := Pl.var_le a b h
  by_cases hlt : a < b
  · have e : Pl.np a b y = ((Pl.npge b a (1 - y)).2, (Pl.npge b a (1 - y)).1) := by unfold Pl.np; rw [if_pos hlt]
    rw [e]
    have hc := fun w => nextPair_ge b a (1 - y) w (by omega) (by omega) (by omega) (by omega)
    have ey : ((1 - y : Nat) : Int) = 1 - (y : Int) := by omega
    rw [ey] at hc
    generalize Pl.npge b a (1 - y) = R at *
    have HC : Hid _ := hc
    clear hc h e ey
    go_enter Try.func17, Try.ntmps17
    go_wp2_with (go_at_call 17; refine (HC.out _).mono ?_; rintro e w1 ⟨rfl, hG1⟩)
    go_ret2
    exact ⟨rfl, hG1⟩
  · have e : Pl.np a b y = Pl.npge a b y := by unfold Pl.np; rw [if_neg hlt]
    rw [e]
    exact nextPair_ge a b y w (by omega) (by omega) (by omega) hy

theorem zzNextPair_any (a b y : Nat) (w : World) (h : Pl.var a b ≠ 0) (hy : y = 0 ∨ y = 1) :
    Calls Try.prog 14 #[.int .i64 a, .int .i64 b, .int .i64 y] w fun e w' => e = .returned (.tuple #[.int .i64 ((Pl.np a b y).1 : Nat), .int .i64 ((Pl.np a b y).2 : Nat)]) ∧ Grown w w' := by
  have HV : Hid (Pl.var a b ≠ 0) := h
  clear h
  go_enter Try.func14, Try.ntmps14
  go_wp2_with (go_at_call 17; refine (nextPair_any a b y _ HV.out hy).mono ?_; rintro e w1 ⟨rfl, hG1⟩)
  go_ret2
  exact ⟨rfl, hG1⟩

theorem zzVariants_any (a b : Nat) (w : World) (ha : (a : Int) ≤ 9223372036854775807) (hb : (b : Int) ≤ 9223372036854775807) :
    Calls Try.prog 13 #[.int .i64 a, .int .i64 b] w fun e w' => e = .returned (.int .i64 (Pl.var a b : Nat)) ∧ Grown w w' := by
  go_enter Try.func13, Try.ntmps13
  go_wp2_with (go_at_call 16; refine (variants_any a b _ ha hb).mono ?_; rintro e w1 ⟨rfl, hG1⟩)
  go_ret
  exact ⟨rfl, hG1⟩
end Go.Proofs.Qxb6603276aR
