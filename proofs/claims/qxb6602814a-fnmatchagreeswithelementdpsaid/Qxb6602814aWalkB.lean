/-
  THE WALKS of matchOne, ZZmatchOne, ZZinSet: over a pattern that lies in memory, or a nil one.
-/
import Derived.Test.Qxb6602814aWalkA
import Derived.Deep.QuietTactic
import Derived.BigQuiet
namespace Go.Proofs.Qxb6602814a
open Go.RowKit

/-- A byte slice at 'ao' reads as the n bytes 'g'. -/
def Pat (w : World) (ao : Option Addr) (n : Nat) (g : Nat → Int) : Prop :=
  n = 0 ∨ ∃ b off, ao = some ⟨b, off, none⟩ ∧ ∀ i, i < n → w.cell? ⟨b, off + i, none⟩ = some (.int .u8 (g i))

theorem ret_two {a a' : Int} {x x' : Bool} (h1 : a = a') (h2 : x = x') : Ending.returned (.tuple #[.int .i64 a, .bool x]) = .returned (.tuple #[.int .i64 a', .bool x']) := by rw [h1, h2]

theorem drewN_same (w : World) : ∃ j, w = w.drewN j := ⟨0, rfl⟩

/-- At the end of the pattern. -/
theorem matchOne_end (ao : Option Addr) (n cap : Nat) (c : Int) (w : World) :
    Calls Try.prog 25 #[.slice ao n cap, .int .i64 n, .int .u8 c] w fun e w' => e = .returned (.tuple #[.int .i64 n, .bool false]) ∧ ∃ j, w' = w.drewN j := by
  have h0 : ((n : Int) == (n : Int)) = true := by simp
  go_enter Try.func25, Try.ntmps25
  go_wp2
  go_ret2
  exact ⟨rfl, drewN_same w⟩

set_option maxRecDepth 10000 in
theorem matchOne_in (b off n cap : Nat) (g : Nat → Int) (p : Nat) (c : Int) (w : World) (hn : n ≤ 1048576) (hp : p < n)
    (HC : Hid (∀ i, i < n → w.cell? ⟨b, off + i, none⟩ = some (.int .u8 (g i)))) :
    Calls Try.prog 25 #[.slice (some ⟨b, off, none⟩) n cap, .int .i64 p, .int .u8 c] w fun e w' =>
      e = .returned (.tuple #[.int .i64 (Pl.mNext g n p : Nat), .bool (Pl.mOk g n p c)]) ∧ ∃ j, w' = w.drewN j := by
  have h0 : ((p : Int) == (n : Int)) = false := by simp; omega
  have hne : p ≠ n := by omega
  have c0 := HC.out p hp
  have hpi : (p : Int) < (n : Int) := by omega
  by_cases e1 : g p = 63
  · have E : Hid (Pl.mNext g n p = p + 1 ∧ Pl.mOk g n p c = true) := ⟨by simp [Pl.mNext, hne, e1], by simp [Pl.mOk, hne, e1]⟩
    have b1 : (g p == 63) = true := by simp [e1]
    clear e1 hne
    go_enter Try.func25, Try.ntmps25
    go_wp2
    go_ret2
    exact ⟨ret_two (by rw [E.out.1]; simp) (by rw [E.out.2]), drewN_same w⟩
  have b1 : (g p == 63) = false := by simp [e1]
  by_cases e2 : g p = 92
  · have b2 : (g p == 92) = true := by simp [e2]
    by_cases e3 : p + 1 < n
    · have E : Hid (Pl.mNext g n p = p + 2 ∧ Pl.mOk g n p c = (g (p + 1) == c)) := ⟨by simp [Pl.mNext, hne, e2, e3], by simp [Pl.mOk, hne, e2, e3]⟩
      have c1 := HC.out (p + 1) e3
      have e3' : (p : Int) + 1 < (n : Int) := by omega
      clear e1 e2 hne
      go_enter Try.func25, Try.ntmps25
      go_wp2
      go_quiet (fail)
      go_wp2
      go_ret2
      exact ⟨ret_two (by rw [E.out.1]; simp) (by rw [E.out.2]), _, rfl⟩
    · have E : Hid (Pl.mNext g n p = p + 1 ∧ Pl.mOk g n p c = (g p == c)) := ⟨by simp [Pl.mNext, hne, e2, e3], by simp [Pl.mOk, hne, e2, e3]⟩
      clear e1 e2 hne
      go_enter Try.func25, Try.ntmps25
      go_wp2
      go_quiet (fail)
      go_wp2
      go_ret2
      exact ⟨ret_two (by rw [E.out.1]; simp) (by rw [E.out.2]), _, rfl⟩
  have b2 : (g p == 92) = false := by simp [e2]
  by_cases e3 : g p = 91
  · have b3 : (g p == 91) = true := by simp [e3]
    cases eo : (Pl.inSet g n (p + 1) c).2.2
    · have eo0 : (Pl.inSet g n (p + 1) 0).2.2 = false := by rw [(Pl.inSet_span g n (p + 1) 0 c).2.1, eo]
      have E : Hid (Pl.mNext g n p = p + 1 ∧ Pl.mOk g n p c = (g p == c)) := ⟨by simp [Pl.mNext, hne, e3, eo0], by simp [Pl.mOk, hne, e3, eo]⟩
      have HI := inSet_some b off n cap g (p + 1) c w hn (by omega) HC.out
      rw [eo, show ((p + 1 : Nat) : Int) = (p : Int) + 1 by omega] at HI
      have HI' := (show Hid (Calls _ _ _ _ _) from HI)
      clear e1 e2 e3 hne eo eo0 HI
      go_enter Try.func25, Try.ntmps25
      go_wp2_with (go_at_call 26; refine (HI'.out).mono ?_; rintro e w' ⟨rfl, rfl⟩)
      go_quiet (fail)
      go_wp2
      go_ret2
      exact ⟨ret_two (by rw [E.out.1]; simp) (by rw [E.out.2]), _, rfl⟩
    · have eo0 : (Pl.inSet g n (p + 1) 0).2.2 = true := by rw [(Pl.inSet_span g n (p + 1) 0 c).2.1, eo]
      have E : Hid (Pl.mNext g n p = (Pl.inSet g n (p + 1) c).1 ∧ Pl.mOk g n p c = (Pl.inSet g n (p + 1) c).2.1) :=
        ⟨by simp [Pl.mNext, hne, e3, eo0, (Pl.inSet_span g n (p + 1) 0 c).1], by simp [Pl.mOk, hne, e3, eo]⟩
      have HI := inSet_some b off n cap g (p + 1) c w hn (by omega) HC.out
      rw [eo, show ((p + 1 : Nat) : Int) = (p : Int) + 1 by omega] at HI
      have HI' := (show Hid (Calls _ _ _ _ _) from HI)
      clear e1 e2 e3 hne eo eo0 HI
      go_enter Try.func25, Try.ntmps25
      go_wp2_with (go_at_call 26; refine (HI'.out).mono ?_; rintro e w' ⟨rfl, rfl⟩)
      go_ret2
      exact ⟨ret_two (by rw [E.out.1]) (by rw [E.out.2]), drewN_same _⟩
  have b3 : (g p == 91) = false := by simp [e3]
  have E : Hid (Pl.mNext g n p = p + 1 ∧ Pl.mOk g n p c = (g p == c)) := ⟨by simp [Pl.mNext, hne, e1, e2, e3], by simp [Pl.mOk, hne, e1, e2, e3]⟩
  clear e1 e2 e3 hne
  go_enter Try.func25, Try.ntmps25
  go_wp2
  go_quiet (fail)
  go_wp2
  go_ret2
  exact ⟨ret_two (by rw [E.out.1]; simp) (by rw [E.out.2]), _, rfl⟩


theorem matchOne_any (ao : Option Addr) (n cap : Nat) (g : Nat → Int) (p : Nat) (c : Int) (w : World) (hn : n ≤ 1048576) (hp : p ≤ n) (HP : Pat w ao n g) :
    Calls Try.prog 25 #[.slice ao n cap, .int .i64 p, .int .u8 c] w fun e w' =>
      e = .returned (.tuple #[.int .i64 (Pl.mNext g n p : Nat), .bool (Pl.mOk g n p c)]) ∧ ∃ j, w' = w.drewN j := by
  by_cases h : p = n
  · subst h
    rw [Pl.mNext_end, Pl.mOk_end]
    exact matchOne_end ao p cap c w
  · rcases HP with h0 | ⟨b, off, rfl, hc⟩
    · omega
    · exact matchOne_in b off n cap g p c w hn (by omega) hc

theorem zzMatchOne_any (ao : Option Addr) (n cap : Nat) (g : Nat → Int) (p : Nat) (c : Int) (w : World) (hn : n ≤ 1048576) (hp : p ≤ n) (HP : Pat w ao n g) :
    Calls Try.prog 13 #[.slice ao n cap, .int .i64 p, .int .u8 c] w fun e w' =>
      e = .returned (.tuple #[.int .i64 (Pl.mNext g n p : Nat), .bool (Pl.mOk g n p c)]) ∧ ∃ j, w' = w.drewN j := by
  go_enter Try.func13, Try.ntmps13
  go_wp2_with (go_at_call 25; refine (matchOne_any ao n cap g p c _ hn hp HP).mono ?_; rintro e w' ⟨rfl, hw⟩)
  go_ret2
  exact ⟨rfl, hw⟩

/-- inSet where nothing stands at p. -/
theorem inSet_far (ao : Option Addr) (n cap : Nat) (p : Int) (c : Int) (w : World) (hp : (n : Int) ≤ p) :
    Calls Try.prog 26 #[.slice ao n cap, .int .i64 p, .int .u8 c] w fun e w' => e = .returned (.tuple #[.int .i64 0, .bool false, .bool false]) ∧ w' = w := by
  have h0 : decide (p < (n : Int)) = false := decide_eq_false (by omega)
  go_enter Try.func26, Try.ntmps26
  go_wp2
  refine wp_loop_rounds 1 ?_
  rw [rounds_succ]
  go_wp2
  go_ret3
  exact ⟨rfl, rfl⟩

/-! ### cloneBytes -/
theorem Try.info5 : (Try.prog.info? 5).map (fun i => (i.zero, i.size, i.bytes)) = some (some (.int .u8 0), 1, 1) := by kernel_rfl

theorem clone_nil (w : World) : Calls Try.prog 12 #[.slice none 0 0] w fun e w' => e = .returned (.slice none 0 0) ∧ w' = w := by
  have q22 : ∀ (w : World) (a : Option Addr) (n c n' c' : Nat), (binOp .eql 22 (.slice a n c) (.slice none n' c')).run Try.prog w = .ok (.bool a.isNone) w := fun w a n c n' c' => Lib.run_eql_slice_nil w _ _ a n c n' c' Try.underlying22
  go_enter Try.func12, Try.ntmps12
  go_wp2
  go_ret
  exact ⟨rfl, rfl⟩

/-- What the clone's loop has laid after k rounds. -/
def Laid (w : World) (B r len k : Nat) (g : Nat → Int) : Prop :=
  ∃ xs, w.ownsRow B 5 1 (.slice (some ⟨r, 0, none⟩) len len) len xs ∧ xs.length = len ∧ ∀ i, i < k → xs[i]? = some (.int .u8 (g i))

theorem Laid.cell {w : World} {B r len k : Nat} {g : Nat → Int} (h : Laid w B r len k g) (i : Nat) (hi : i < k) (hl : i < len) : w.cell? ⟨r, i, none⟩ = some (.int .u8 (g i)) := by
  obtain ⟨xs, ho, _, hx⟩ := h
  rw [ho.cellAt i (by omega), hx i hi]
theorem Laid.old {w : World} {B r len k : Nat} {g : Nat → Int} (h : Laid w B r len k g) (i : Nat) (hl : i < len) : ∃ v, w.cell? ⟨r, i, none⟩ = some v := by
  obtain ⟨xs, ho, hxl, _⟩ := h
  exact ⟨xs[i], by rw [ho.cellAt i (by omega)]; simp [hxl, hl]⟩
theorem Laid.frozen {w : World} {B r len k : Nat} {g : Nat → Int} (h : Laid w B r len k g) (i : Nat) : w.frozen? ⟨r, i, none⟩ = false := by
  obtain ⟨xs, ho, _⟩ := h
  exact ho.frozenAt i
theorem Laid.step {w : World} {B r len k : Nat} {g : Nat → Int} (h : Laid w B r len k g) (hk : k < len) : Laid (w.setCell ⟨r, k, none⟩ (.int .u8 (g k))) B r len (k + 1) g := by
  obtain ⟨xs, ho, hxl, hx⟩ := h
  refine ⟨xs.set k (.int .u8 (g k)), (ho.stored k _).1, by simpa using hxl, fun i hi => ?_⟩
  by_cases e : i = k
  · subst e; simp [hxl, hk]
  · rw [List.getElem?_set_ne (by omega)]; exact hx i (by omega)

set_option maxRecDepth 10000 in
theorem clone_some (x : Addr) (len cap : Nat) (g : Nat → Int) (w : World) (hl : len ≤ 65536) (hc : ∀ i, i < len → w.cell? (x.add i) = some (.int .u8 (g i))) :
    Calls Try.prog 12 #[.slice (some x) len cap] w fun e w' => e = .returned (.slice (some ⟨w.heap.size, 0, none⟩) len len) ∧ Laid w' w.heap.size w.heap.size len len g ∧ Below w.heap.size w w' := by
  have q22 : ∀ (w : World) (a : Option Addr) (n c n' c' : Nat), (binOp .eql 22 (.slice a n c) (.slice none n' c')).run Try.prog w = .ok (.bool a.isNone) w := fun w a n c n' c' => Lib.run_eql_slice_nil w _ _ a n c n' c' Try.underlying22
  obtain ⟨i0, hi, hz0, hz1, hz2⟩ := info_parts Try.info5
  have hx : 0 < len → ∃ b off, x = ⟨b, off, none⟩ ∧ b < w.heap.size := by
    intro h0
    have h1 := hc 0 h0
    obtain ⟨b, off, spot⟩ := x
    have hs : spot = none := by simpa [Addr.add] using World.cell?_spot h1
    subst hs
    exact ⟨b, off, rfl, by simpa [Addr.add] using World.block_lt_of_cell? _ _ h1⟩
  by_cases h0 : len = 0
  · subst h0
    clear hc hx
    go_enter Try.func12, Try.ntmps12
    go_wp2_with (at_make; refine wpList_make_full _ rfl _ _ 22 rfl w.heap.size 5 i0 (.int .u8 0) 1 Try.underlying22 hi hz0 hz1 .i64 .i64 (0 : Int) (0 : Int) 0 rfl rfl rfl rfl (by rw [hz2]; omega) (by unfold maxLen; omega) (Nat.le_refl _) ?_; intro w1 hown hgrow)
    refine wp_loop_rounds 1 ?_
    rw [rounds_succ]
    go_wp2
    go_ret
    exact ⟨rfl, ⟨_, hown, by simp [madeCells], fun i hi => by omega⟩, (Below.refl _ _).grown hgrow (Nat.le_refl _) (by simp)⟩
  · obtain ⟨b, off, rfl, hb⟩ := hx (by omega)
    have HC : Hid (∀ i, i < len → w.cell? ⟨b, off + i, none⟩ = some (.int .u8 (g i))) := fun i hi => by rw [← Addr.add_lit]; exact hc i hi
    clear hc hx
    go_enter Try.func12, Try.ntmps12
    go_wp2_with (at_make; refine wpList_make_full _ rfl _ _ 22 rfl w.heap.size 5 i0 (.int .u8 0) 1 Try.underlying22 hi hz0 hz1 .i64 .i64 (len : Int) (len : Int) len rfl rfl rfl rfl (by rw [hz2]; omega) (by unfold maxLen; omega) (Nat.le_refl _) ?_; intro w1 hown hgrow)
    have L0 : Laid w1 w.heap.size w.heap.size len 0 g := ⟨_, hown, by simp [size_madeCells], fun i hi => by omega⟩
    have B0 : Below w.heap.size w w1 := (Below.refl _ _).grown hgrow (Nat.le_refl _) (by simp)
    clear hown hgrow hi hz0 hz1 hz2 q22
    go_loopg [4] len (fun f s4 wr => ∃ k : Nat, s4 = .int .i64 k ∧ f + k = len ∧ Laid wr w.heap.size w.heap.size len k g ∧ Below w.heap.size w wr)
    case atStart => exact ⟨0, rfl, by omega, L0, B0⟩
    case round =>
      obtain ⟨k, rfl, hk, L, B⟩ := hrel
      clear L0 B0
      by_cases hlt : k < len
      · have c0 : wr.cell? ⟨b, off + k, none⟩ = some (.int .u8 (g k)) := (B.cell (p := ⟨b, off + k, none⟩) hb).trans (HC.out k hlt)
        obtain ⟨v, c1⟩ := L.old k hlt
        have f1 := L.frozen k
        have LS := L.step hlt
        have BS := B.setCell (p := ⟨w.heap.size, k, none⟩) (Nat.le_refl _) (.int .u8 (g k))
        clear L B
        go_wp2
        go_roundg (gk - 1)
        case measure => omega
        case rel => exact ⟨k + 1, by go_num, by omega, LS, BS⟩
      · have e : k = len := by omega
        subst e
        go_wp2
        go_ret
        exact ⟨rfl, L, B⟩

/-- cloneBytes, whatever comes in: new memory that reads the same, nothing old turned. -/
theorem clone_any (ao : Option Addr) (len cap : Nat) (g : Nat → Int) (w : World) (hl : len ≤ 65536)
    (h : (ao = none ∧ len = 0 ∧ cap = 0) ∨ ∃ x, ao = some x ∧ ∀ i, i < len → w.cell? (x.add i) = some (.int .u8 (g i))) :
    Calls Try.prog 12 #[.slice ao len cap] w fun e w' => ∃ ao' cap', e = .returned (.slice ao' len cap') ∧ (ao' = none ∧ len = 0 ∨ ao' = some ⟨w.heap.size, 0, none⟩) ∧
      (∀ i, i < len → w'.cell? ⟨w.heap.size, i, none⟩ = some (.int .u8 (g i))) ∧ Below w.heap.size w w' ∧ (0 < len → w.heap.size < w'.heap.size) := by
  rcases h with ⟨rfl, rfl, rfl⟩ | ⟨x, rfl, hc⟩
  · refine (clone_nil w).mono fun e w' ⟨he, hw⟩ => ?_
    subst he; subst hw
    exact ⟨none, 0, rfl, .inl ⟨rfl, rfl⟩, fun i hi => by omega, Below.refl _ _, fun h => by omega⟩
  · refine (clone_some x len cap g w hl hc).mono fun e w' ⟨he, L, B⟩ => ?_
    subst he
    exact ⟨_, len, rfl, .inr rfl, fun i hi => L.cell i hi hi, B, fun h => World.block_lt_of_cell? _ _ (L.cell 0 h h)⟩

end Go.Proofs.Qxb6602814a
