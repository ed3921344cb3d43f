/-
  THE LAW 'FnMatchAgreesWithElementDP', walked.
-/
import Derived.Test.Qxb6602814aDPParts
import Derived.Test.Qxb6602814aLawEsc
namespace Go.Proofs.Qxb6602814a
open Go.RowKit

theorem law_dp_small (ao bo : Option Addr) (la ca lb cb : Nat) (w : World) (ha : (la : Int) ≤ 9223372036854775807) (hb : (lb : Int) ≤ 9223372036854775807) (h : ¬ (la ≤ 512 ∧ lb ≤ 512)) :
    Calls Try.prog 3 #[.slice ao la ca, .slice bo lb cb] w fun e w' => e = .returned (.bool true) ∧ Below w.heap.size w w' := by
  by_cases h1 : 1048576 < la
  · go_enter Try.func3, Try.ntmps3
    go_wp2
    go_ret
    exact ⟨rfl, Below.refl _ _⟩
  by_cases h2 : 1048576 < lb
  · go_enter Try.func3, Try.ntmps3
    go_wp2
    go_ret
    exact ⟨rfl, Below.refl _ _⟩
  by_cases h3 : 1048576 < la + lb
  · go_enter Try.func3, Try.ntmps3
    go_wp2
    go_ret
    exact ⟨rfl, Below.refl _ _⟩
  by_cases h4 : 512 < la
  · clear h
    go_enter Try.func3, Try.ntmps3
    go_wp2
    go_ret
    exact ⟨rfl, Below.refl _ _⟩
  · have h5 : 512 < lb := by omega
    clear h
    go_enter Try.func3, Try.ntmps3
    go_wp2
    go_ret
    exact ⟨rfl, Below.refl _ _⟩

set_option maxRecDepth 10000 in
set_option maxHeartbeats 1000000 in
theorem law_dp_core (ao bo : Option Addr) (n ca m cb : Nat) (g h : Nat → Int) (w : World) (hn : n ≤ 512) (hm : m ≤ 512) (hh : ∀ i, 0 ≤ h i ∧ h i ≤ 255)
    (HA : Hid (Came w ao n ca g)) (HB : Hid (Came w bo m cb h)) :
    Calls Try.prog 3 #[.slice ao n ca, .slice bo m cb] w fun e w' => e = .returned (.bool true) ∧ Below w.heap.size w w' := by
  have HH : Hid (∀ i, 0 ≤ h i ∧ h i ≤ 255) := hh
  clear hh
  obtain ⟨i0, hi, hz0, hz1, hz2⟩ := info_parts Try.info4
  go_enter Try.func3, Try.ntmps3
  go_wp2_with (go_at_call 11; go_in)
  refine (clone_any ao n ca g w (by omega) HA.out).mono ?_
  rintro e w1 ⟨ao1, ca1, rfl, hao, hca, hb1, hs1⟩
  go_wp2_with fail
  refine (clone_any bo m cb h w1 (by omega) (Came.later HB.out hb1)).mono ?_
  rintro e w2 ⟨bo1, cb1, rfl, hbo, hcb, hb2, hs2⟩
  have ew1 := hb1.size
  have ew2 := hb2.size
  have PG : Hid (Pat w2 ao1 n g) := (pat_of hao hca).later hb2
  have PN : Hid (Pat w2 bo1 m h) := pat_of hbo hcb
  have BF : Hid (Below w.heap.size w w2) := hb1.trans (hb2.mono ew1)
  have hw2 : w.heap.size ≤ w2.heap.size := by omega
  clear hao hca hbo hcb hs1 hs2 hb1 hb2 HA HB
  go_upto_region 12 with (first | (at_make; refine wpList_make_full _ rfl (.tmp 35) (.tmp 35) 25 rfl w2.heap.size 4 i0 (.bool false) 1 Try.underlying25 hi hz0 hz1 .i64 .i64 ((m : Int) + 1) ((m : Int) + 1) (m + 1) rfl rfl (by omega) (by omega) (by rw [hz2]; omega) (by unfold maxLen; omega) (Nat.le_refl _) ?_; intro w3 hown3 hgrow3; have sz3 := hgrow3.size) | (at_make; refine wpList_make_full _ rfl (.tmp 38) (.tmp 38) 25 rfl w2.heap.size 4 i0 (.bool false) 1 Try.underlying25 hi hz0 hz1 .i64 .i64 ((m : Int) + 1) ((m : Int) + 1) (m + 1) rfl rfl (by omega) (by omega) (by rw [hz2]; omega) (by unfold maxLen; omega) sz3 ?_; intro w4 hown4 hgrow4))
  have sz4 := hgrow4.size
  have X3 := BRow.zero hown3
  have hx3 := X3.lt (by omega)
  have B34 : Below w3.heap.size w3 w4 := (Below.refl _ _).grown hgrow4 (Nat.le_refl _) (by simp)
  have X4 := X3.below B34 hx3
  have Y4 := BRow.made hown4 (by simp [size_madeCells]) (fun _ => false)
  have hy4 := Y4.lt (by omega)
  have B24 : Below w2.heap.size w2 w4 := ((Below.refl _ _).grown hgrow3 (Nat.le_refl _) (by simp)).trans (B34.mono sz3)
  have x0 := X4.cell 0 (by omega)
  have x1 := X4.frozen 0 (by omega)
  have X5 := X4.one (by omega)
  have Y5 := Y4.other w2.heap.size 0 (.bool true) (by omega)
  have B25 := B24.setCell (p := ⟨w2.heap.size, 0, none⟩) (Nat.le_refl _) (.bool true)
  clear hown3 hown4 hgrow3 hgrow4 X3 X4 Y4 B34 B24 hi hz0 hz1 hz2
  go_wp2
  clear x0 x1
  go_loopg [6, 7, 8] (n + 1) (fun k s6 s7 s8 wr => ∃ (p x y : Nat) (D : Nat → Bool), s6 = .slice (some ⟨x, 0, none⟩) (m + 1) (m + 1) ∧ s7 = .slice (some ⟨y, 0, none⟩) (m + 1) (m + 1) ∧ s8 = .int .i64 p ∧ p ≤ n ∧ k + p = n + 1 ∧ x ≠ y ∧
    w2.heap.size ≤ x ∧ w2.heap.size ≤ y ∧ BRow wr x (m + 1) D (m + 1) ∧ BRow wr y (m + 1) (fun _ => false) 0 ∧ Pl.Keeps g n h m p D ∧ Below w2.heap.size w2 wr)
  case atStart => exact ⟨0, w2.heap.size, w3.heap.size, Pl.startD, rfl, rfl, rfl, by omega, by omega, by omega, Nat.le_refl _, sz3, X5, Y5, Pl.Keeps.start, B25⟩
  case round =>
    obtain ⟨p, x, y, D, rfl, rfl, rfl, hp, hk, hxy, hx, hy, X, Y, K, B⟩ := hrel
    clear X5 Y5 B25
    rename World => wa
    have HK : Hid (Pl.Keeps g n h m p D) := K
    clear K
    have hxw := X.lt (by omega)
    have hyw := Y.lt (by omega)
    by_cases hpn : p < n
    · rcases PG.out with h0 | ⟨b, off, rfl, hc⟩
      · omega
      have HC : Hid (∀ i, i < n → w2.cell? ⟨b, off + i, none⟩ = some (.int .u8 (g i))) := hc
      have hb : b < w2.heap.size := World.block_lt_of_cell? _ _ (hc p hpn)
      have c0 : wa.cell? ⟨b, off + p, none⟩ = some (.int .u8 (g p)) := (B.cell (p := ⟨b, off + p, none⟩) hb).trans (hc p hpn)
      clear hc
      cases hs : (g p == 42)
      · have HK2 : Hid (Pl.Keeps g n h m (Pl.mNext g n p) (Pl.elemD g n p h D)) := HK.out.elem hpn (by simpa using hs)
        have hnx := Pl.mNext_in g n p hpn
        have P1 : Hid (Pat wa (some ⟨b, off, none⟩) n g) := PG.out.later B
        go_upto_region 25 with (go_at_call 13; refine (zzMatchOne_any (some ⟨b, off, none⟩) n ca1 g p 0 _ (by omega) hp P1.out).mono ?_; rintro e w' ⟨rfl, i, rfl⟩)
        generalize Pl.mNext g n p = nx at *
        clear c0 P1
        have hz := zero28
        have q1 : decide ((nx : Int) ≤ (p : Int)) = false := decide_eq_false (by omega)
        have q2 : decide (nx ≤ p) = false := decide_eq_false (by omega)
        have q3 : decide ((n : Int) < (nx : Int)) = false := decide_eq_false (by omega)
        have q4 : decide (n < nx) = false := decide_eq_false (by omega)
        go_wp2
        clear hz q1 q2 q3 q4
        have T0 : BRow ((wa.drewN i).alloc (.cells member0 28)) wa.heap.size 256 (fun v => Pl.mOk g n p (v : Int)) 0 := BRow.table (wa.drewN i) _
        have X0 := (X.drewN i).alloc (.cells member0 28) (by simpa using hxw)
        have Y0 := (Y.drewN i).alloc (.cells member0 28) (by simpa using hyw)
        have B0 := (below_drewN B i).alloc (by simpa using B.size) (.cells member0 28)
        clear X Y B
        go_loopg [14] 256 (fun k s14 wr => ∃ v : Nat, s14 = .int .i64 v ∧ k + v = 256 ∧ BRow wr x (m + 1) D (m + 1) ∧ BRow wr y (m + 1) (fun _ => false) 0 ∧ BRow wr wa.heap.size 256 (fun v => Pl.mOk g n p (v : Int)) v ∧ Below w2.heap.size w2 wr)
        case atStart => exact ⟨0, rfl, by omega, X0, Y0, T0, B0⟩
        case round =>
          rename World => wb
          clear X0 Y0 T0 B0
          obtain ⟨v, rfl, hv, X, Y, T, B⟩ := hrel
          by_cases hv2 : v < 256
          · have P1 : Hid (Pat wb (some ⟨b, off, none⟩) n g) := PG.out.later B
            obtain ⟨u, d1⟩ := T.old v hv2
            have d2 := T.frozen v hv2
            have T2 := T.set hv2
            have X2 := X.other wa.heap.size v (.bool (Pl.mOk g n p (v : Int))) (by omega)
            have Y2 := Y.other wa.heap.size v (.bool (Pl.mOk g n p (v : Int))) (by omega)
            have B2 := B.setCell (p := ⟨wa.heap.size, v, none⟩) (by show w2.heap.size ≤ wa.heap.size; omega) (.bool (Pl.mOk g n p (v : Int)))
            clear X Y T B
            go_wp2_with (go_at_call 13; refine (zzMatchOne_any (some ⟨b, off, none⟩) n ca1 g p (v : Int) _ (by omega) hp P1.out).mono ?_; rintro e w' ⟨rfl, i2, rfl⟩)
            go_roundg (gk - 1)
            case measure => omega
            case rel => go_light; exact ⟨v + 1, by go_num, by omega, X2.drewN _, Y2.drewN _, T2.drewN _, below_drewN B2 _⟩
          · have ev : v = 256 := by omega
            subst ev
            obtain ⟨u, d1⟩ := Y.old 0 (by omega)
            have d2 := Y.frozen 0 (by omega)
            have Y1 : BRow (wb.setCell ⟨y, 0, none⟩ (.bool false)) y (m + 1) (Pl.elemD g n p h D) 1 := (Y.forget (Pl.elemD g n p h D)).set (by omega)
            have X1 := X.other y 0 (.bool false) hxy
            have T1 := T.other y 0 (.bool false) (by omega)
            have B1 := B.setCell (p := ⟨y, 0, none⟩) hy (.bool false)
            clear X Y T B
            go_wp2
            clear d1 d2
            go_loopg [17] m (fun k s17 wr => ∃ i : Nat, s17 = .int .i64 ((i : Int) + 1) ∧ k + i = m ∧ BRow wr x (m + 1) D (m + 1) ∧ BRow wr y (m + 1) (Pl.elemD g n p h D) (i + 1) ∧ BRow wr wa.heap.size 256 (fun v => Pl.mOk g n p (v : Int)) 256 ∧ Below w2.heap.size w2 wr)
            case atStart => exact ⟨0, rfl, by omega, X1, Y1, T1, B1⟩
            case round =>
              rename World => wd
              clear X1 Y1 T1 B1
              obtain ⟨j, rfl, hj, X, Y, T, B⟩ := hrel
              by_cases hjm : j < m
              · rcases PN.out with h0 | ⟨b2, off2, rfl, hc2⟩
                · omega
                have hb2 : b2 < w2.heap.size := World.block_lt_of_cell? _ _ (hc2 j hjm)
                have e0 : wd.cell? ⟨b2, off2 + j, none⟩ = some (.int .u8 (h j)) := (B.cell (p := ⟨b2, off2 + j, none⟩) hb2).trans (hc2 j hjm)
                clear hc2
                have hr := HH.out j
                obtain ⟨c, hc⟩ : ∃ c : Nat, h j = (c : Int) := Int.eq_ofNat_of_zero_le hr.1
                have d0 := X.cell j (by omega)
                obtain ⟨u, d1⟩ := Y.old (j + 1) (by omega)
                have d2 := Y.frozen (j + 1) (by omega)
                have d3 := T.cell c (by omega)
                have Y2 := Y.set (by omega)
                have hE : Pl.elemD g n p h D (j + 1) = (D j && Pl.mOk g n p (c : Int)) := by rw [← hc]; rfl
                rw [hE] at Y2
                have X2 := fun v => X.other y (j + 1) (.bool v) hxy
                have T2 := fun v => T.other y (j + 1) (.bool v) (by omega)
                have B2 := fun v => B.setCell (p := ⟨y, j + 1, none⟩) hy (.bool v)
                rw [hc] at e0 hr
                clear X Y T B hE hc
                generalize Pl.mOk g n p (c : Int) = ok at *
                cases hD : D j
                · rw [hD] at d0 Y2
                  go_wp2
                  go_roundg (gk - 1)
                  case measure => omega
                  case rel => go_light; exact ⟨j + 1, by go_num, by omega, X2 _, Y2, T2 _, B2 _⟩
                · rw [hD] at d0 Y2
                  go_wp2
                  go_roundg (gk - 1)
                  case measure => omega
                  case rel => go_light; exact ⟨j + 1, by go_num, by omega, X2 _, Y2, T2 _, B2 _⟩
              · have ej : j = m := by omega
                subst ej
                go_wp2
                go_roundg (n + 1 - nx)
                case measure => omega
                case rel => go_light; exact ⟨nx, y, x, Pl.elemD g n p h D, rfl, rfl, rfl, by omega, by omega, fun e => hxy e.symm, hy, hx, Y, X.forget _, HK2.out, B⟩
      · have HK2 : Hid (Pl.Keeps g n h m (p + 1) (Pl.starD D)) := HK.out.star hpn (by simpa using hs)
        go_wp2
        clear c0
        go_loopg [9, 10] (m + 1) (fun k s9 s10 wr => ∃ j : Nat, s9 = .bool (Pl.orU D j) ∧ s10 = .int .i64 j ∧ k + j = m + 1 ∧ BRow wr x (m + 1) D (m + 1) ∧ BRow wr y (m + 1) (Pl.starD D) j ∧ Below w2.heap.size w2 wr)
        case atStart => exact ⟨0, rfl, rfl, by omega, X, Y.forget _, B⟩
        case round =>
          rename World => wb
          clear X Y B
          obtain ⟨j, rfl, rfl, hj, X, Y, B⟩ := hrel
          by_cases hjm : j ≤ m
          · have d0 := X.cell j (by omega)
            obtain ⟨v, d1⟩ := Y.old j (by omega)
            have d2 := Y.frozen j (by omega)
            cases hD : D j
            · have HO : Hid (Pl.starD D j = Pl.orU D j ∧ Pl.orU D (j + 1) = Pl.orU D j) := by
                have e : Pl.orU D (j + 1) = Pl.orU D j := by show (Pl.orU D j || D j) = _; rw [hD, Bool.or_false]
                exact ⟨e, e⟩
              have Y2 := Y.set (by omega)
              rw [HO.out.1] at Y2
              have X2 := X.other y j (.bool (Pl.orU D j)) hxy
              have B2 := B.setCell (p := ⟨y, j, none⟩) hy (.bool (Pl.orU D j))
              rw [hD] at d0
              clear X Y B
              generalize Pl.orU D j = acc at *
              go_wp2
              go_roundg (gk - 1)
              case measure => omega
              case rel => go_light; exact ⟨j + 1, by rw [HO.out.2], by go_num, by omega, X2, Y2, B2⟩
            · have HO : Hid (Pl.starD D j = true ∧ Pl.orU D (j + 1) = true) := by
                have e : Pl.orU D (j + 1) = true := by show (Pl.orU D j || D j) = _; rw [hD, Bool.or_true]
                exact ⟨e, e⟩
              have Y2 := Y.set (by omega)
              rw [HO.out.1] at Y2
              have X2 := X.other y j (.bool true) hxy
              have B2 := B.setCell (p := ⟨y, j, none⟩) hy (.bool true)
              rw [hD] at d0
              clear X Y B
              go_wp2
              go_roundg (gk - 1)
              case measure => omega
              case rel => go_light; exact ⟨j + 1, by rw [HO.out.2], by go_num, by omega, X2, Y2, B2⟩
          · have ej : j = m + 1 := by omega
            subst ej
            go_wp2
            go_roundg (n - p)
            case measure => omega
            case rel => go_light; exact ⟨p + 1, y, x, Pl.starD D, rfl, rfl, by go_num, by omega, by omega, fun e => hxy e.symm, hy, hx, Y, X.forget _, HK2.out, B⟩
    · have ep : p = n := by omega
      subst ep
      have HE : Hid (Pl.A g p h m 0 0 = D m) := HK.out.out
      have d0 := X.cell m (by omega)
      have P1 : Hid (Pat wa ao1 p g) := PG.out.later B
      have P2 : Hid (Pat wa bo1 m h) := PN.out.later B
      have B2 : Hid (Below w.heap.size w wa) := BF.out.trans (B.mono hw2)
      clear X Y
      go_wp2
      go_quiet ((go_at_call 14; exact Calls.quiet_of (match_any ao1 bo1 p ca1 m cb1 g h _ (by omega) (by omega) (pat_drewN P1.out _) (pat_drewN P2.out _))))
      rw [HE.out]
      go_wp2
      go_ret
      exact ⟨ret_bool (by simp), below_drewN B2.out _⟩
theorem law_dp (ao bo : Option Addr) (n ca m cb : Nat) (g h : Nat → Int) (w : World) (ha : (n : Int) ≤ 9223372036854775807) (hb : (m : Int) ≤ 9223372036854775807) (hh : ∀ i, 0 ≤ h i ∧ h i ≤ 255)
    (HA : Came w ao n ca g) (HB : Came w bo m cb h) :
    Calls Try.prog 3 #[.slice ao n ca, .slice bo m cb] w fun e w' => e = .returned (.bool true) ∧ Below w.heap.size w w' := by
  by_cases hs : n ≤ 512 ∧ m ≤ 512
  · exact law_dp_core ao bo n ca m cb g h w hs.1 hs.2 hh HA HB
  · exact law_dp_small ao bo n ca m cb w ha hb hs

end Go.Proofs.Qxb6602814a
