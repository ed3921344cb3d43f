/-
  THE LAW 'FnValidAcceptsEveryFormattedUUID', walked.
-/
import Derived.Test.Qxb6603700aFormat
namespace Go.Proofs.Qxb6603700a
open Go.RowKit

theorem Try.size26 : (Try.prog.info? 26).map (·.size) = some 16 := by kernel_rfl

set_option maxRecDepth 10000 in
theorem law_valid (cs : Array Value) (b : Nat → Int) (w : World) (hsz : cs.size = 16) (hcs : ∀ i, i < 16 → cs[i]? = some (.int .u8 (b i))) (hb : ∀ i, 0 ≤ b i ∧ b i ≤ 255) :
    Calls Try.prog 5 #[.agg cs] w fun e w' => e = .returned (.bool true) ∧ Below w.heap.size w w' := by
  have HC : Hid _ := hcs
  have HB : Hid _ := hb
  have HS : Hid _ := hsz
  clear hcs hb hsz
  go_enter Try.func5, Try.ntmps5
  go_wp2_with (refine wpList_load_row rfl 26 (.tmp 1) rfl w.heap.size rfl 26 cs (0, 0) _ (heap_alloc_new w _) Try.underlying26 rfl (by rw [HS.out]; exact Try.size26) ?_)
  refine (format_any cs b _ HC.out HB.out).mono ?_
  rintro e w1 ⟨s, rfl, hs, hg, hb1⟩
  have HBel : Hid (Below w.heap.size w w1) := ((Below.refl _ _).alloc (Nat.le_refl _) (.cells cs 26)).trans (hb1.mono (by simp))
  have hsz : w.heap.size ≤ w1.heap.size := by have := hb1.size; simp at this; omega
  have HV : Hid (∀ k, k < 36 → good k ((s.data[k]?.getD 0).toNat : Int)) := fun k hk => by
    have h : k < s.data.size := by show k < s.size; omega
    have e : s.data[k]?.getD 0 = s.data[k] := by rw [Array.getElem?_eq_getElem h]; rfl
    rw [e]; exact hg k h
  have HS2 : Hid (s.size = 36) := hs
  clear hs hg hb1
  go_wp2_with fail
  refine (valid_any s w1 HS2.out (fun k => ((s.data[k]?.getD 0).toNat : Int)) (fun k h => by show _ = ((s.data[k]?.getD 0).toNat : Int); rw [Array.getElem?_eq_getElem h]; rfl) HV.out).mono ?_
  rintro e w2 ⟨rfl, hb2⟩
  have HB2 : Hid (Below w.heap.size w w2) := HBel.out.trans (hb2.mono hsz)
  clear hb2
  go_wp2
  go_ret
  exact ⟨rfl, HB2.out⟩
end Go.Proofs.Qxb6603700a
