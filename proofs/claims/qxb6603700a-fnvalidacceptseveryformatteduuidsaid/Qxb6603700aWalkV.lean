/-
  THE WALKS of hexDigit, Valid and formatUUID.
-/
import Derived.Test.Qxb6603700aProg
import Derived.WalkKit
import Derived.WalkSpells
import Derived.WalkLawsBesides
import Derived.Deep.LoopGhost
import Derived.Deep.Light
import Derived.Laws.IdiomStrings
import Derived.Laws.BytesArg
import Derived.Below
namespace Go.Proofs.Qxb6603700a
open Go.RowKit

/-- Is c a lower-case hex digit? -/
def hexOk (c : Int) : Prop := (48 ≤ c ∧ c ≤ 57) ∨ (97 ≤ c ∧ c ≤ 102)
/-- May byte c stand at place k of a UUID's text? -/
def good (k : Nat) (c : Int) : Prop := ((k = 8 ∨ k = 13 ∨ k = 18 ∨ k = 23) ∧ c = 45) ∨ (¬ (k = 8 ∨ k = 13 ∨ k = 18 ∨ k = 23) ∧ hexOk c)

theorem hexDigit_any (n : Int) (w : World) (h0 : 0 ≤ n) (h1 : n ≤ 15) :
    Calls Try.prog 13 #[.int .u8 n] w fun e w' => ∃ c, e = .returned (.int .u8 c) ∧ hexOk c ∧ w' = w := by
  by_cases h : n < 10
  · go_enter Try.func13, Try.ntmps13
    go_wp2
    go_ret
    exact ⟨_, rfl, .inl (by omega), rfl⟩
  · go_enter Try.func13, Try.ntmps13
    go_wp2
    go_ret
    exact ⟨_, rfl, .inr (by omega), rfl⟩

set_option maxRecDepth 10000 in
theorem valid_any (s : ByteArray) (w : World) (hs : s.size = 36) (g : Nat → Int) (hg : ∀ k (h : k < s.data.size), (s.data[k].toNat : Int) = g k) (hgood : ∀ k, k < 36 → good k (g k)) :
    Calls Try.prog 10 #[.string s] w fun e w' => e = .returned (.bool true) ∧ Below w.heap.size w w' := by
  have hconv := fun w => run_bytes_of_string (P := Try.prog) w 9 31 5 s Try.underlying9 Try.underlying31 Try.underlying5
  have hl : ((s.size : Int) != 36) = false := by simp; omega
  have HS : Hid (s.size = 36) := hs
  have HG : Hid _ := hg
  have HGood : Hid _ := hgood
  clear hs hg hgood
  go_enter Try.func10, Try.ntmps10
  go_wp2
  have hs1 : s.size ≤ 36 := by rw [HS.out]; omega
  have hs2 : 36 ≤ s.size := by rw [HS.out]; omega
  have C0 : Hid (∀ j, j < 36 → ((w.alloc (Obj.cells (bytesRow s (grownCap w s.size 0 5)) 5 ((bytesRow s (grownCap w s.size 0 5)).size, (bytesRow s (grownCap w s.size 0 5)).size + 1))).drew).cell? ⟨w.heap.size, j, none⟩ = some (.int .u8 (g j))) := by
    intro j hj
    have hjs : j < s.data.size := by show j < s.size; omega
    show (w.alloc _).cell? _ = _
    rw [World.cell?_alloc_mark, bytesRow_at s _ j hjs, HG.out j hjs]
  have B0 : Hid (Below w.heap.size w ((w.alloc (Obj.cells (bytesRow s (grownCap w s.size 0 5)) 5 ((bytesRow s (grownCap w s.size 0 5)).size, (bytesRow s (grownCap w s.size 0 5)).size + 1))).drew)) := ((Below.refl _ _).alloc (Nat.le_refl _) _).drew
  clear HG hconv hl HS
  go_loopg [11] 36 (fun f s11 wr => ∃ k : Nat, s11 = .int .i64 k ∧ f + k = 36 ∧ (∀ j, j < 36 → wr.cell? ⟨w.heap.size, j, none⟩ = some (.int .u8 (g j))) ∧ Below w.heap.size w wr)
  case atStart => exact ⟨0, rfl, by omega, C0.out, B0.out⟩
  case round =>
    obtain ⟨k, rfl, hk, hcell, hb⟩ := hrel
    have HCell : Hid _ := hcell
    have HB : Hid _ := hb
    clear hcell hb C0 B0
    by_cases hlt : k < 36
    · rcases HGood.out k hlt with ⟨hd, hc⟩ | ⟨hd, hc⟩
      · rcases hd with rfl | rfl | rfl | rfl
        · have q : (g 8 != 45) = false := by simp [hc]
          have c0 := HCell.out 8 (by omega)
          clear hc
          go_wp2
          go_roundg 27
          case measure => omega
          case rel => go_light; exact ⟨9, by go_num, by omega, HCell.out, HB.out⟩
        · have q : (g 13 != 45) = false := by simp [hc]
          have c0 := HCell.out 13 (by omega)
          clear hc
          go_wp2
          go_roundg 22
          case measure => omega
          case rel => go_light; exact ⟨14, by go_num, by omega, HCell.out, HB.out⟩
        · have q : (g 18 != 45) = false := by simp [hc]
          have c0 := HCell.out 18 (by omega)
          clear hc
          go_wp2
          go_roundg 17
          case measure => omega
          case rel => go_light; exact ⟨19, by go_num, by omega, HCell.out, HB.out⟩
        · have q : (g 23 != 45) = false := by simp [hc]
          have c0 := HCell.out 23 (by omega)
          clear hc
          go_wp2
          go_roundg 12
          case measure => omega
          case rel => go_light; exact ⟨24, by go_num, by omega, HCell.out, HB.out⟩
      · have c0 := HCell.out k hlt
        have q1 : ((k : Int) == 8) = false := by simp; omega
        have q2 : ((k : Int) == 13) = false := by simp; omega
        have q3 : ((k : Int) == 18) = false := by simp; omega
        have q4 : ((k : Int) == 23) = false := by simp; omega
        rcases hc with ⟨h1, h2⟩ | ⟨h1, h2⟩
        · clear hd
          go_wp2
          go_roundg (gk - 1)
          case measure => omega
          case rel => go_light; exact ⟨k + 1, by go_num, by omega, HCell.out, HB.out⟩
        · have q5 : decide (g k ≤ 57) = false := decide_eq_false (by omega)
          clear hd
          go_wp2
          go_roundg (gk - 1)
          case measure => omega
          case rel => go_light; exact ⟨k + 1, by go_num, by omega, HCell.out, HB.out⟩
    · go_wp2
      go_ret
      exact ⟨rfl, HB.out⟩
end Go.Proofs.Qxb6603700a
