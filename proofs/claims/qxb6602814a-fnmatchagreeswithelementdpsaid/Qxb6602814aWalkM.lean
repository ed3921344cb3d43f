/-
  THE WALK of Match: it answers 'Pl.A', and turns nothing but the count of draws.
-/
import Derived.Test.Qxb6602814aWalkB
import Derived.Test.Qxb6602814aPlainMatch
namespace Go.Proofs.Qxb6602814a
open Go.RowKit

theorem pat_drewN {w : World} {ao : Option Addr} {n : Nat} {g : Nat → Int} (h : Pat w ao n g) (j : Nat) : Pat (w.drewN j) ao n g := by
  rcases h with h | ⟨b, off, h1, h2⟩
  · exact .inl h
  · exact .inr ⟨b, off, h1, fun i hi => by rw [← h2 i hi]; simp⟩

theorem ret_bool {x y : Bool} (h : x = y) : Ending.returned (.bool x) = .returned (.bool y) := by rw [h]

set_option maxRecDepth 10000 in
set_option maxHeartbeats 1000000 in
theorem match_any (ao ho : Option Addr) (n cap m hcap : Nat) (g h : Nat → Int) (w : World) (hn : n ≤ 1048576) (hm : m ≤ 1048576) (HP : Hid (Pat w ao n g)) (HN : Hid (Pat w ho m h)) :
    Calls Try.prog 14 #[.slice ao n cap, .slice ho m hcap] w fun e w' => e = .returned (.bool (Pl.A g n h m 0 0)) ∧ ∃ j, w' = w.drewN j := by
  go_enter Try.func14, Try.ntmps14
  go_wp2
  go_loopg [5, 6, 7, 8] (Pl.rounds n m 0 0 0) (fun k s5 s6 s7 s8 wr => ∃ (p j S U i : Nat), s5 = .int .i64 p ∧ s6 = .int .i64 j ∧ s7 = .int .i64 ((S : Int) - 1) ∧ s8 = .int .i64 U ∧ Pl.MInv g n h m p j S U ∧ k = Pl.rounds n m p S U ∧ wr = w.drewN i)
  case atStart => exact ⟨0, 0, 0, 0, 0, rfl, rfl, rfl, rfl, Pl.MInv.start, rfl, rfl⟩
  case round =>
    obtain ⟨p, j, S, U, i, rfl, rfl, rfl, rfl, I, hk, rfl⟩ := hrel
    have HK : Hid (gk = Pl.rounds n m p S U) := hk
    clear hk
    have i1 := I.hp
    have i2 := I.hj
    have i3 := I.hU
    have i4 := I.hS
    have HI : Hid (Pl.MInv g n h m p j S U) := I
    clear I
    by_cases hj : j < m
    · have hd0 : (j : Int) < (m : Int) := by omega
      by_cases hp : p < n
      · rcases HP.out with h0 | ⟨b, off, rfl, hc⟩
        · omega
        have HC : Hid _ := hc
        have c0 : (w.drewN i).cell? ⟨b, off + p, none⟩ = some (.int .u8 (g p)) := by rw [← hc p hp]; simp
        clear hc
        cases hs : (g p == 42)
        · -- an element
          have hne : g p ≠ 42 := by simpa using hs
          rcases HN.out with h0 | ⟨b2, off2, rfl, hc2⟩
          · omega
          have d0 : (w.drewN i).cell? ⟨b2, off2 + j, none⟩ = some (.int .u8 (h j)) := by rw [← hc2 j hj]; simp
          have hnx := Pl.mNext_in g n p hp
          have P1 := pat_drewN HP.out i
          cases hok : Pl.mOk g n p (h j)
          · have HF : Hid (Pl.A g n h m p j = false) := HI.out.fail hj (.inr ⟨hp, hne, hok⟩)
            clear hne hc2
            by_cases hS : S = 0
            · subst hS
              have HZ : Hid (Pl.A g n h m 0 0 = false) := HI.out.none HF.out
              go_wp2_with (go_at_call 25; refine (matchOne_any _ n cap g p (h j) _ hn i1 P1).mono ?_; rintro e w' ⟨rfl, i', rfl⟩; rw [hok])
              go_ret
              exact ⟨ret_bool HZ.out.symm, _, rfl⟩
            · have HI2 : Hid _ := HI.out.back (by omega) hj HF.out
              have HR : Hid _ := Pl.rounds_back n m p S U (by omega)
              go_wp2_with (go_at_call 25; refine (matchOne_any _ n cap g p (h j) _ hn i1 P1).mono ?_; rintro e w' ⟨rfl, i', rfl⟩; rw [hok])
              go_roundg (Pl.rounds n m S S (U + 1))
              case measure => rw [HK.out]; exact HR.out
              case rel => go_light; exact ⟨S, U + 1, S, U + 1, _, by go_num, by go_num, rfl, by go_num, HI2.out, rfl, rfl⟩
          · have HI2 : Hid _ := HI.out.elem hp hne hj hok
            have HR : Hid _ := Pl.rounds_elem n m p (Pl.mNext g n p) S U hnx.1 hnx.2
            clear hne hc2
            go_wp2_with (go_at_call 25; refine (matchOne_any _ n cap g p (h j) _ hn i1 P1).mono ?_; rintro e w' ⟨rfl, i', rfl⟩; rw [hok])
            go_roundg (Pl.rounds n m (Pl.mNext g n p) S U)
            case measure => rw [HK.out]; exact HR.out
            case rel => go_light; exact ⟨Pl.mNext g n p, j + 1, S, U, _, rfl, by go_num, rfl, rfl, HI2.out, rfl, rfl⟩
        · -- a star
          have HI2 : Hid _ := HI.out.star hp (by simpa using hs)
          have HR : Hid _ := Pl.rounds_star n m p j S U i4 hp
          go_wp2
          go_roundg (Pl.rounds n m (p + 1) (p + 1) j)
          case measure => rw [HK.out]; exact HR.out
          case rel => go_light; exact ⟨p + 1, j, p + 1, j, _, by go_num, rfl, by go_num, rfl, HI2.out, rfl, rfl⟩
      · -- behind the pattern's end
        have ep : p = n := by omega
        subst ep
        have hd1 : decide ((p : Int) < (p : Int)) = false := decide_eq_false (by omega)
        rcases HN.out with h0 | ⟨b2, off2, rfl, hc2⟩
        · omega
        have d0 : (w.drewN i).cell? ⟨b2, off2 + j, none⟩ = some (.int .u8 (h j)) := by rw [← hc2 j hj]; simp
        have HF : Hid (Pl.A g p h m p j = false) := HI.out.fail hj (.inl rfl)
        clear hc2
        by_cases hS : S = 0
        · subst hS
          have HZ : Hid (Pl.A g p h m 0 0 = false) := HI.out.none HF.out
          go_wp2_with (go_at_call 25; refine (matchOne_end ao p cap (h j) _).mono ?_; rintro e w' ⟨rfl, i', rfl⟩)
          go_ret
          exact ⟨ret_bool HZ.out.symm, _, rfl⟩
        · have HI2 : Hid _ := HI.out.back (by omega) hj HF.out
          have HR : Hid _ := Pl.rounds_back p m p S U (by omega)
          go_wp2_with (go_at_call 25; refine (matchOne_end ao p cap (h j) _).mono ?_; rintro e w' ⟨rfl, i', rfl⟩)
          go_roundg (Pl.rounds p m S S (U + 1))
          case measure => rw [HK.out]; exact HR.out
          case rel => go_light; exact ⟨S, U + 1, S, U + 1, _, by go_num, by go_num, rfl, by go_num, HI2.out, rfl, rfl⟩
    · -- the name is read
      have ej : j = m := by omega
      subst ej
      have HO : Hid (Pl.A g n h j 0 0 = Pl.A g n h j p j) := HI.out.out
      clear HI HK
      go_wp2
      go_loopg [5] (n - p) (fun k s5 wx => ∃ q : Nat, s5 = .int .i64 q ∧ q ≤ n ∧ k = n - q ∧ Pl.A g n h j 0 0 = Pl.A g n h j q j ∧ wx = w.drewN i)
      case atStart => exact ⟨p, rfl, i1, rfl, HO.out, rfl⟩
      case round =>
        obtain ⟨q, rfl, hq, hk, hA, rfl⟩ := hrel
        have HA : Hid (Pl.A g n h j 0 0 = Pl.A g n h j q j) := hA
        clear hA HO
        by_cases hqn : q < n
        · rcases HP.out with h0 | ⟨b, off, rfl, hc⟩
          · omega
          have c0 : (w.drewN i).cell? ⟨b, off + q, none⟩ = some (.int .u8 (g q)) := by rw [← hc q hqn]; simp
          clear hc
          cases hs : (g q == 42)
          · have HZ : Hid (Pl.A g n h j 0 0 = false) := HA.out.trans (Pl.A_tail_elem hqn (by simpa using hs))
            have hqe : ((q : Int) == (n : Int)) = false := by simp; omega
            go_wp2
            go_ret
            exact ⟨ret_bool HZ.out.symm, _, rfl⟩
          · have HA2 : Hid (Pl.A g n h j 0 0 = Pl.A g n h j (q + 1) j) := HA.out.trans (Pl.A_tail_star hqn (by simpa using hs))
            go_wp2
            go_roundg (n - (q + 1))
            case measure => omega
            case rel => go_light; exact ⟨q + 1, by go_num, by omega, rfl, HA2.out, rfl⟩
        · have eq : q = n := by omega
          subst eq
          have HZ : Hid (Pl.A g q h j 0 0 = true) := HA.out.trans Pl.A_tail_end
          have hd1 : decide ((q : Int) < (q : Int)) = false := decide_eq_false (by omega)
          have hqe : ((q : Int) == (q : Int)) = true := by simp
          go_wp2
          go_ret
          exact ⟨ret_bool HZ.out.symm, _, rfl⟩
end Go.Proofs.Qxb6602814a
