/-
  THE WALK of formatUUID: whatever the sixteen bytes, what it hands back has the form of a UUID's text.
-/
import Derived.Test.Qxb6603700aWalkV
namespace Go.Proofs.Qxb6603700a
open Go.RowKit

theorem Try.info5 : (Try.prog.info? 5).map (fun i => (i.zero, i.size, i.bytes)) = some (some (.int .u8 0), 1, 1) := by kernel_rfl

/-- 'append(v, x)', v the call's own bytes. -/
theorem wp_app {ops : Array Oper} {rest : List Oper} {o : Oper} {a : Act} {Q : Exit → Act → World → Prop} (w : World) (hgd : o.guard = none) (s x : Operand)
    (ho : o.op = .call { callee := .builtin .append, args := #[s, x], argTypes := #[31, 31] }) (B : Nat)
    (v : Value) (n : Nat) (xs : List Value) (hs : a.eval s = v) (hown : w.ownsRow B 5 1 v n xs)
    (r : Nat) (u : Value) (hx : a.eval x = .slice (some ⟨r, 0, none⟩) 1 1) (hc : w.cell? ⟨r, 0, none⟩ = some u) (hu : u.oneCell' = true) (hn : n ≤ 65536) (hB : B ≤ w.heap.size)
    (h : ∀ v' w', w'.ownsRow B 5 1 v' (n + 1) (xs ++ [u]) → w.grownBy w' v.ownBlock → wpList Try.prog ops Q rest (a.put o.dst v') w') : wpList Try.prog ops Q (o :: rest) a w := by
  obtain ⟨i0, hi, hz0, hz1, hz2⟩ := info_parts Try.info5
  refine wpList_append_own w hgd s x 31 ho B 5 i0 (.int .u8 0) 1 1 Try.underlying31 hi hz0 hz1 hz2 rfl (by omega) v n xs hs hown ⟨r, 0, none⟩ 1 1 [u] hx rfl ?_ ?_ ?_ ?_ hB (fun v' w' h1 h2 _ => h v' w' h1 h2)
  · intro j y hj
    match j, hj with
    | 0, hj => simp at hj; subst hj; simpa [Addr.add] using hc
    | j + 1, hj => simp at hj
  · intro y hy; simp at hy; subst hy; exact hu
  · unfold maxLen; omega
  · omega

/-- How many bytes stand in the buffer ahead of round i. -/
def off (i : Nat) : Nat := if i ≤ 4 then 2 * i else if i ≤ 6 then 2 * i + 1 else if i ≤ 8 then 2 * i + 2 else if i ≤ 10 then 2 * i + 3 else 2 * i + 4

/-- The buffer v holds n bytes, each fit for its place. -/
structure Buf (w : World) (B : Nat) (v : Value) (n : Nat) (xs : List Int) : Prop where
  own : w.ownsRow B 5 1 v n (xs.map (Value.int .u8))
  len : xs.length = n
  fit : ∀ k, k < n → good k (xs.getD k 0)

theorem Buf.app {w w' : World} {B n : Nat} {v v' : Value} {xs : List Int} {c : Int} (U : Buf w B v n xs) (hc : good n c) (h : w'.ownsRow B 5 1 v' (n + 1) (xs.map (Value.int .u8) ++ [.int .u8 c])) : Buf w' B v' (n + 1) (xs ++ [c]) := by
  refine ⟨by simpa using h, by simp [U.len], fun k hk => ?_⟩
  have hl := U.len
  by_cases e : k = n
  · subst e
    have : (xs ++ [c]).getD k 0 = c := by simp [List.getD, ← hl]
    rw [this]; exact hc
  · have : (xs ++ [c]).getD k 0 = xs.getD k 0 := by simp [List.getD, List.getElem?_append_left (show k < xs.length by omega)]
    rw [this]; exact U.fit k (by omega)

theorem Buf.row {w : World} {B n : Nat} {v : Value} {xs : List Int} (U : Buf w B v n xs) : ∀ k, v.ownBlock = some k → B ≤ k := fun k hk => (U.own.lt k hk).1

theorem off_le (i : Nat) (h : i ≤ 16) : off i ≤ 36 := by unfold off; repeat' split
                                                         all_goals omega
theorem off_plain (i : Nat) (hd : ¬ (i = 4 ∨ i = 6 ∨ i = 8 ∨ i = 10)) : off (i + 1) = off i + 1 + 1 ∧ ¬ (off i = 8 ∨ off i = 13 ∨ off i = 18 ∨ off i = 23) ∧ ¬ (off i + 1 = 8 ∨ off i + 1 = 13 ∨ off i + 1 = 18 ∨ off i + 1 = 23) := by
  unfold off
  repeat' split
  all_goals omega

theorem hexOk_rng {c : Int} (h : hexOk c) : 0 ≤ c ∧ c ≤ 255 := by unfold hexOk at h; omega
theorem good_rng {k : Nat} {c : Int} (h : good k c) : 0 ≤ c ∧ c ≤ 255 := by
  rcases h with ⟨_, h⟩ | ⟨_, h⟩
  · omega
  · exact hexOk_rng h

set_option maxRecDepth 10000 in
set_option maxHeartbeats 1000000 in
theorem format_any (cs : Array Value) (b : Nat → Int) (w : World) (hcs : ∀ i, i < 16 → cs[i]? = some (.int .u8 (b i))) (hb : ∀ i, 0 ≤ b i ∧ b i ≤ 255) :
    Calls Try.prog 9 #[.agg cs] w fun e w' => ∃ s : ByteArray, e = .returned (.string s) ∧ s.size = 36 ∧ (∀ k (h : k < s.data.size), good k (s.data[k].toNat : Int)) ∧ Below w.heap.size w w' := by
  obtain ⟨i0, hi, hz0, hz1, hz2⟩ := info_parts Try.info5
  go_enter Try.func9, Try.ntmps9
  go_wp2_with (at_make; refine wpList_make_own _ rfl _ _ 31 rfl (w.heap.size + 1) 5 i0 (.int .u8 0) 1 Try.underlying31 hi hz0 hz1 .i64 .i64 (36 : Int) 36 rfl rfl rfl (by rw [hz2]; omega) (by unfold maxLen; omega) (by simp) ?_; intro w1 hown hgrow)
  have B0 : Below (w.heap.size + 1) (w.alloc (.cells cs 26)) w1 := (Below.refl _ _).grown hgrow (by simp) (by simp)
  have S0 : w.heap.size + 1 ≤ w1.heap.size := by have := hgrow.size; simpa using this
  have U0 : Buf w1 (w.heap.size + 1) (.slice (some ⟨w.heap.size + 1, 0, none⟩) 0 36) (off 0) [] := ⟨by simpa [off] using hown, rfl, fun k hk => by simp [off] at hk⟩
  have C0 : Hid (∀ i, i < 16 → (w.alloc (.cells cs 26)).cell? ⟨w.heap.size, i, none⟩ = some (.int .u8 (b i))) := fun i hi => by rw [World.cell?_alloc_at _ _ _ _ rfl]; exact hcs i hi
  have HB : Hid _ := hb
  clear hown hgrow hcs hb hi hz0 hz1 hz2
  go_loopg [3, 4] 16 (fun f s3 s4 wr => ∃ (i : Nat) (xs : List Int), s4 = .int .i64 i ∧ f + i = 16 ∧ Buf wr (w.heap.size + 1) s3 (off i) xs ∧ Below (w.heap.size + 1) (w.alloc (.cells cs 26)) wr ∧ w.heap.size + 1 ≤ wr.heap.size)
  case atStart => exact ⟨0, [], rfl, by omega, U0, B0, S0⟩
  case round =>
    obtain ⟨i, xs, rfl, hif, U, B, S⟩ := hrel
    clear U0 B0 S0
    by_cases hlt : i < 16
    · have c0 : wr.cell? ⟨w.heap.size, i, none⟩ = some (.int .u8 (b i)) := (B.cell (p := ⟨w.heap.size, i, none⟩) (Nat.lt_succ_self _)).trans (C0.out i hlt)
      have hbi := HB.out i
      by_cases hd : i = 4 ∨ i = 6 ∨ i = 8 ∨ i = 10
      · rcases hd with rfl | rfl | rfl | rfl
        · have eo : off 4 = 8 := rfl
          have HO : Hid (off (4 + 1) = 8 + 1 + 1 + 1) := rfl
          rw [eo] at U
          clear eo
          go_wp2_with (first | (at_builtin; refine wp_app _ rfl (.tmp 24) (.tmp 25) rfl (w.heap.size + 1) _ _ _ rfl (U.own.alloc _) _ (.int .u8 45) rfl (by simp) rfl (by omega) (by simp; omega) ?_; intro v0 w1 h0 g0; have U0 := U.app (c := 45) (.inl ⟨by omega, rfl⟩) h0; have B0 := (B.alloc S _).grown g0 (by simp; omega) U.row; have S0 := g0.size; have d0 : w1.cell? ⟨w.heap.size, 4, none⟩ = some (.int .u8 (b 4)) := (B0.cell (p := ⟨w.heap.size, 4, none⟩) (Nat.lt_succ_self _)).trans (C0.out 4 (by omega))))
          have S1 : w.heap.size + 1 ≤ w1.heap.size := by simp at S0; omega
          clear h0 g0 S0 U B c0 S
          refine (hexDigit_any (b 4 / 16) w1 (by omega) (by omega)).mono ?_
          rintro e wq ⟨c1, rfl, hc1, rfl⟩
          go_wp2_with (first | (at_builtin; refine wp_app _ rfl (.tmp 27) (.tmp 33) rfl (w.heap.size + 1) _ _ _ rfl (U0.own.alloc _) _ (.int .u8 c1) rfl (by simp) rfl (by omega) (by simp; omega) ?_; intro v1 w2 h1 g1; have U1 := U0.app (.inr ⟨by omega, hc1⟩) h1; have B1 := (B0.alloc S1 _).grown g1 (by simp; omega) U0.row; have S2 := g1.size; have d1 : w2.cell? ⟨w.heap.size, 4, none⟩ = some (.int .u8 (b 4)) := (B1.cell (p := ⟨w.heap.size, 4, none⟩) (Nat.lt_succ_self _)).trans (C0.out 4 (by omega))))
          have S3 : w.heap.size + 1 ≤ w2.heap.size := by simp at S2; omega
          clear h1 g1 S2 U0 B0 d0 S1
          refine (hexDigit_any (b 4 % 16) w2 (by omega) (by omega)).mono ?_
          rintro e wq2 ⟨c2, rfl, hc2, rfl⟩
          go_wp2_with (first | (at_builtin; refine wp_app _ rfl (.tmp 35) (.tmp 41) rfl (w.heap.size + 1) _ _ _ rfl (U1.own.alloc _) _ (.int .u8 c2) rfl (by simp) rfl (by omega) (by simp; omega) ?_; intro v2 w3 h2 g2; have U2 := U1.app (.inr ⟨by omega, hc2⟩) h2; have B2 := (B1.alloc S3 _).grown g2 (by simp; omega) U1.row; have S4 := g2.size))
          have S5 : w.heap.size + 1 ≤ w3.heap.size := by simp at S4; omega
          clear h2 g2 S4
          go_roundg (gk - 1)
          case measure => omega
          case rel => go_light; exact ⟨4 + 1, xs ++ [45] ++ [c1] ++ [c2], by go_num, by omega, by rw [HO.out]; exact U2, B2, S5⟩
        · have eo : off 6 = 13 := rfl
          have HO : Hid (off (6 + 1) = 13 + 1 + 1 + 1) := rfl
          rw [eo] at U
          clear eo
          go_wp2_with (first | (at_builtin; refine wp_app _ rfl (.tmp 24) (.tmp 25) rfl (w.heap.size + 1) _ _ _ rfl (U.own.alloc _) _ (.int .u8 45) rfl (by simp) rfl (by omega) (by simp; omega) ?_; intro v0 w1 h0 g0; have U0 := U.app (c := 45) (.inl ⟨by omega, rfl⟩) h0; have B0 := (B.alloc S _).grown g0 (by simp; omega) U.row; have S0 := g0.size; have d0 : w1.cell? ⟨w.heap.size, 6, none⟩ = some (.int .u8 (b 6)) := (B0.cell (p := ⟨w.heap.size, 6, none⟩) (Nat.lt_succ_self _)).trans (C0.out 6 (by omega))))
          have S1 : w.heap.size + 1 ≤ w1.heap.size := by simp at S0; omega
          clear h0 g0 S0 U B c0 S
          refine (hexDigit_any (b 6 / 16) w1 (by omega) (by omega)).mono ?_
          rintro e wq ⟨c1, rfl, hc1, rfl⟩
          go_wp2_with (first | (at_builtin; refine wp_app _ rfl (.tmp 27) (.tmp 33) rfl (w.heap.size + 1) _ _ _ rfl (U0.own.alloc _) _ (.int .u8 c1) rfl (by simp) rfl (by omega) (by simp; omega) ?_; intro v1 w2 h1 g1; have U1 := U0.app (.inr ⟨by omega, hc1⟩) h1; have B1 := (B0.alloc S1 _).grown g1 (by simp; omega) U0.row; have S2 := g1.size; have d1 : w2.cell? ⟨w.heap.size, 6, none⟩ = some (.int .u8 (b 6)) := (B1.cell (p := ⟨w.heap.size, 6, none⟩) (Nat.lt_succ_self _)).trans (C0.out 6 (by omega))))
          have S3 : w.heap.size + 1 ≤ w2.heap.size := by simp at S2; omega
          clear h1 g1 S2 U0 B0 d0 S1
          refine (hexDigit_any (b 6 % 16) w2 (by omega) (by omega)).mono ?_
          rintro e wq2 ⟨c2, rfl, hc2, rfl⟩
          go_wp2_with (first | (at_builtin; refine wp_app _ rfl (.tmp 35) (.tmp 41) rfl (w.heap.size + 1) _ _ _ rfl (U1.own.alloc _) _ (.int .u8 c2) rfl (by simp) rfl (by omega) (by simp; omega) ?_; intro v2 w3 h2 g2; have U2 := U1.app (.inr ⟨by omega, hc2⟩) h2; have B2 := (B1.alloc S3 _).grown g2 (by simp; omega) U1.row; have S4 := g2.size))
          have S5 : w.heap.size + 1 ≤ w3.heap.size := by simp at S4; omega
          clear h2 g2 S4
          go_roundg (gk - 1)
          case measure => omega
          case rel => go_light; exact ⟨6 + 1, xs ++ [45] ++ [c1] ++ [c2], by go_num, by omega, by rw [HO.out]; exact U2, B2, S5⟩
        · have eo : off 8 = 18 := rfl
          have HO : Hid (off (8 + 1) = 18 + 1 + 1 + 1) := rfl
          rw [eo] at U
          clear eo
          go_wp2_with (first | (at_builtin; refine wp_app _ rfl (.tmp 24) (.tmp 25) rfl (w.heap.size + 1) _ _ _ rfl (U.own.alloc _) _ (.int .u8 45) rfl (by simp) rfl (by omega) (by simp; omega) ?_; intro v0 w1 h0 g0; have U0 := U.app (c := 45) (.inl ⟨by omega, rfl⟩) h0; have B0 := (B.alloc S _).grown g0 (by simp; omega) U.row; have S0 := g0.size; have d0 : w1.cell? ⟨w.heap.size, 8, none⟩ = some (.int .u8 (b 8)) := (B0.cell (p := ⟨w.heap.size, 8, none⟩) (Nat.lt_succ_self _)).trans (C0.out 8 (by omega))))
          have S1 : w.heap.size + 1 ≤ w1.heap.size := by simp at S0; omega
          clear h0 g0 S0 U B c0 S
          refine (hexDigit_any (b 8 / 16) w1 (by omega) (by omega)).mono ?_
          rintro e wq ⟨c1, rfl, hc1, rfl⟩
          go_wp2_with (first | (at_builtin; refine wp_app _ rfl (.tmp 27) (.tmp 33) rfl (w.heap.size + 1) _ _ _ rfl (U0.own.alloc _) _ (.int .u8 c1) rfl (by simp) rfl (by omega) (by simp; omega) ?_; intro v1 w2 h1 g1; have U1 := U0.app (.inr ⟨by omega, hc1⟩) h1; have B1 := (B0.alloc S1 _).grown g1 (by simp; omega) U0.row; have S2 := g1.size; have d1 : w2.cell? ⟨w.heap.size, 8, none⟩ = some (.int .u8 (b 8)) := (B1.cell (p := ⟨w.heap.size, 8, none⟩) (Nat.lt_succ_self _)).trans (C0.out 8 (by omega))))
          have S3 : w.heap.size + 1 ≤ w2.heap.size := by simp at S2; omega
          clear h1 g1 S2 U0 B0 d0 S1
          refine (hexDigit_any (b 8 % 16) w2 (by omega) (by omega)).mono ?_
          rintro e wq2 ⟨c2, rfl, hc2, rfl⟩
          go_wp2_with (first | (at_builtin; refine wp_app _ rfl (.tmp 35) (.tmp 41) rfl (w.heap.size + 1) _ _ _ rfl (U1.own.alloc _) _ (.int .u8 c2) rfl (by simp) rfl (by omega) (by simp; omega) ?_; intro v2 w3 h2 g2; have U2 := U1.app (.inr ⟨by omega, hc2⟩) h2; have B2 := (B1.alloc S3 _).grown g2 (by simp; omega) U1.row; have S4 := g2.size))
          have S5 : w.heap.size + 1 ≤ w3.heap.size := by simp at S4; omega
          clear h2 g2 S4
          go_roundg (gk - 1)
          case measure => omega
          case rel => go_light; exact ⟨8 + 1, xs ++ [45] ++ [c1] ++ [c2], by go_num, by omega, by rw [HO.out]; exact U2, B2, S5⟩
        · have eo : off 10 = 23 := rfl
          have HO : Hid (off (10 + 1) = 23 + 1 + 1 + 1) := rfl
          rw [eo] at U
          clear eo
          go_wp2_with (first | (at_builtin; refine wp_app _ rfl (.tmp 24) (.tmp 25) rfl (w.heap.size + 1) _ _ _ rfl (U.own.alloc _) _ (.int .u8 45) rfl (by simp) rfl (by omega) (by simp; omega) ?_; intro v0 w1 h0 g0; have U0 := U.app (c := 45) (.inl ⟨by omega, rfl⟩) h0; have B0 := (B.alloc S _).grown g0 (by simp; omega) U.row; have S0 := g0.size; have d0 : w1.cell? ⟨w.heap.size, 10, none⟩ = some (.int .u8 (b 10)) := (B0.cell (p := ⟨w.heap.size, 10, none⟩) (Nat.lt_succ_self _)).trans (C0.out 10 (by omega))))
          have S1 : w.heap.size + 1 ≤ w1.heap.size := by simp at S0; omega
          clear h0 g0 S0 U B c0 S
          refine (hexDigit_any (b 10 / 16) w1 (by omega) (by omega)).mono ?_
          rintro e wq ⟨c1, rfl, hc1, rfl⟩
          go_wp2_with (first | (at_builtin; refine wp_app _ rfl (.tmp 27) (.tmp 33) rfl (w.heap.size + 1) _ _ _ rfl (U0.own.alloc _) _ (.int .u8 c1) rfl (by simp) rfl (by omega) (by simp; omega) ?_; intro v1 w2 h1 g1; have U1 := U0.app (.inr ⟨by omega, hc1⟩) h1; have B1 := (B0.alloc S1 _).grown g1 (by simp; omega) U0.row; have S2 := g1.size; have d1 : w2.cell? ⟨w.heap.size, 10, none⟩ = some (.int .u8 (b 10)) := (B1.cell (p := ⟨w.heap.size, 10, none⟩) (Nat.lt_succ_self _)).trans (C0.out 10 (by omega))))
          have S3 : w.heap.size + 1 ≤ w2.heap.size := by simp at S2; omega
          clear h1 g1 S2 U0 B0 d0 S1
          refine (hexDigit_any (b 10 % 16) w2 (by omega) (by omega)).mono ?_
          rintro e wq2 ⟨c2, rfl, hc2, rfl⟩
          go_wp2_with (first | (at_builtin; refine wp_app _ rfl (.tmp 35) (.tmp 41) rfl (w.heap.size + 1) _ _ _ rfl (U1.own.alloc _) _ (.int .u8 c2) rfl (by simp) rfl (by omega) (by simp; omega) ?_; intro v2 w3 h2 g2; have U2 := U1.app (.inr ⟨by omega, hc2⟩) h2; have B2 := (B1.alloc S3 _).grown g2 (by simp; omega) U1.row; have S4 := g2.size))
          have S5 : w.heap.size + 1 ≤ w3.heap.size := by simp at S4; omega
          clear h2 g2 S4
          go_roundg (gk - 1)
          case measure => omega
          case rel => go_light; exact ⟨10 + 1, xs ++ [45] ++ [c1] ++ [c2], by go_num, by omega, by rw [HO.out]; exact U2, B2, S5⟩
      · have q1 : ((i : Int) == 4) = false := by simp; omega
        have q2 : ((i : Int) == 6) = false := by simp; omega
        have q3 : ((i : Int) == 8) = false := by simp; omega
        have q4 : ((i : Int) == 10) = false := by simp; omega
        have hof := off_le i (by omega)
        obtain ⟨o1, o2, o3⟩ := off_plain i hd
        have HO : Hid (off (i + 1) = off i + 1 + 1) := o1
        clear o1 hd
        go_wp2_with fail
        refine (hexDigit_any (b i / 16) wr (by omega) (by omega)).mono ?_
        rintro e wq ⟨c1, rfl, hc1, rfl⟩
        go_wp2_with (first | (at_builtin; refine wp_app _ rfl (.tmp 27) (.tmp 33) rfl (w.heap.size + 1) _ _ _ rfl (U.own.alloc _) _ (.int .u8 c1) rfl (by simp) rfl (by omega) (by simp; omega) ?_; intro v1 w2 h1 g1; have U1 := U.app (.inr ⟨o2, hc1⟩) h1; have B1 := (B.alloc S _).grown g1 (by simp; omega) U.row; have S1 := g1.size; have d1 : w2.cell? ⟨w.heap.size, i, none⟩ = some (.int .u8 (b i)) := (B1.cell (p := ⟨w.heap.size, i, none⟩) (Nat.lt_succ_self _)).trans (C0.out i hlt)))
        have S2 : w.heap.size + 1 ≤ w2.heap.size := by simp at S1; omega
        clear h1 g1 S1 U B c0 S
        refine (hexDigit_any (b i % 16) w2 (by omega) (by omega)).mono ?_
        rintro e wq2 ⟨c2, rfl, hc2, rfl⟩
        go_wp2_with (first | (at_builtin; refine wp_app _ rfl (.tmp 35) (.tmp 41) rfl (w.heap.size + 1) _ _ _ rfl (U1.own.alloc _) _ (.int .u8 c2) rfl (by simp) rfl (by omega) (by simp; omega) ?_; intro v2 w3 h2 g2; have U2 := U1.app (.inr ⟨o3, hc2⟩) h2; have B2 := (B1.alloc S2 _).grown g2 (by simp; omega) U1.row; have S3 := g2.size))
        have S4 : w.heap.size + 1 ≤ w3.heap.size := by simp at S3; omega
        clear h2 g2 S3
        go_roundg (gk - 1)
        case measure => omega
        case rel => go_light; exact ⟨i + 1, xs ++ [c1] ++ [c2], by go_num, by omega, by rw [HO.out]; exact U2, B2, S4⟩
    · have ei : i = 16 := by omega
      subst ei
      have eo : off 16 = 36 := rfl
      rw [eo] at U
      clear eo
      obtain ⟨gb, cap, ev, hcell⟩ : ∃ gb cap, u3 = .slice (some ⟨gb, 0, none⟩) 36 cap ∧ ∀ k, k < 36 → wr.cell? ⟨gb, 0 + k, none⟩ = some (.int .u8 (xs.getD k 0)) := by
        rcases U.own.2 with ⟨_, h0⟩ | ⟨gb, cap, cur, rfl, _⟩
        · omega
        · refine ⟨gb, cap, rfl, fun k hk => ?_⟩
          have hl := U.len
          rw [Nat.zero_add, U.own.cellAt k (by omega)]
          simp [List.getElem?_eq_getElem (show k < xs.length by omega)]
      subst ev
      have hconv := run_convert_bytes_arg (P := Try.prog) wr 31 5 Try.underlying31 Try.underlying5 gb 0 36 cap xs U.len hcell 9 Try.underlying9
      have HR : Hid ((strOfNums xs).size = 36 ∧ ∀ k (h : k < (strOfNums xs).data.size), good k ((strOfNums xs).data[k].toNat : Int)) := by
        refine ⟨by rw [strOfNums_size]; exact U.len, fun k h => ?_⟩
        have hl := U.len
        have hk : k < xs.length := by simpa [strOfNums] using h
        have e : ((strOfNums xs).data[k].toNat : Int) = xs.getD k 0 := by
          have hr := good_rng (U.fit k (by omega))
          have hg : xs.getD k 0 = xs[k] := by simp [hk]
          rw [hg] at hr ⊢
          simp only [strOfNums, List.getElem_toArray, List.getElem_map, UInt8.toNat_ofNat']
          omega
        rw [e]; exact U.fit k (by omega)
      have HBel : Hid (Below w.heap.size w wr) := ((Below.refl _ _).alloc (Nat.le_refl _) _).trans (B.mono (by omega))
      clear U B hcell
      generalize strOfNums xs = str at *
      go_wp2
      go_ret
      exact ⟨str, rfl, HR.out.1, HR.out.2, HBel.out⟩
end Go.Proofs.Qxb6603700a
