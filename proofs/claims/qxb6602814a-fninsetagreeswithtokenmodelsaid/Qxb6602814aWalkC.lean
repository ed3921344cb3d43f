/-
  THE WALK of setByTokens.
-/
import Derived.Test.Qxb6602814aTokParts
namespace Go.Proofs.Qxb6602814a
open Go.RowKit

/-- Where nothing stands at p. -/
theorem tok_far (ao : Option Addr) (n cap : Nat) (p c : Int) (w : World) (h0 : 0 ≤ p) (hp : (n : Int) ≤ p) :
    Calls Try.prog 22 #[.slice ao n cap, .int .i64 p, .int .u8 c] w fun e w' => e = .returned (.tuple #[.int .i64 0, .bool false, .bool false]) ∧ w' = w := by
  have h1 : decide (p < 0) = false := decide_eq_false (by omega)
  have h2 : decide ((n : Int) ≤ p) = true := decide_eq_true (by omega)
  go_enter Try.func22, Try.ntmps22
  go_wp2
  go_ret3
  exact ⟨rfl, rfl⟩

theorem toks_step (g : Nat → Int) (n f q : Nat) (h : q < n) (hf : n ≤ f + q) :
    ((g q == 92) = true → q + 1 < n → Pl.toks g n f q = (g (q + 1), false, q + 2) :: Pl.toks g n (f - 1) (q + 2)) ∧
    ((g q == 92) = false ∨ ¬ q + 1 < n → Pl.toks g n f q = (g q, true, q + 1) :: Pl.toks g n (f - 1) (q + 1)) := by
  obtain ⟨f, rfl⟩ : ∃ f', f = f' + 1 := ⟨f - 1, by omega⟩
  constructor
  · intro h1 h2
    conv => lhs; unfold Pl.toks
    rw [if_pos h, if_pos ⟨h1, h2⟩]; rfl
  · intro h1
    conv => lhs; unfold Pl.toks
    rw [if_pos h, if_neg]; rfl
    rintro ⟨a, b⟩
    rcases h1 with h1 | h1
    · simp [h1] at a
    · exact h1 b

/-- Does a range begin at the j-th token? -/
def rgT (tp : Nat → Bool) (tv : Nat → Int) (i j : Nat) : Bool := decide (j + 2 < i) && (tp (j + 1) && (tv (j + 1) == 45))
theorem rgT_of (tp : Nat → Bool) (tv : Nat → Int) (i j : Nat) : (¬ j + 2 < i → rgT tp tv i j = false) ∧ (tp (j + 1) = false → rgT tp tv i j = false) ∧ ((tv (j + 1) == 45) = false → rgT tp tv i j = false) ∧
    (j + 2 < i → tp (j + 1) = true → (tv (j + 1) == 45) = true → rgT tp tv i j = true) := by
  unfold rgT
  refine ⟨fun a => by simp [a], fun a => by simp [a], fun a => by simp [a], fun a b d => by simp [a, b, d]⟩
theorem rgT_yes {tp : Nat → Bool} {tv : Nat → Int} {i j : Nat} (h : rgT tp tv i j = true) : j + 2 < i ∧ (tp (j + 1) && (tv (j + 1) == 45)) = true := by
  unfold rgT at h; rw [Bool.and_eq_true] at h; exact ⟨of_decide_eq_true h.1, h.2⟩
theorem rgT_no {tp : Nat → Bool} {tv : Nat → Int} {i j : Nat} (h : rgT tp tv i j = false) : ¬ (j + 2 < i ∧ (tp (j + 1) && (tv (j + 1) == 45)) = true) := by
  intro hh
  unfold rgT at h
  rw [decide_eq_true hh.1, hh.2] at h
  simp at h

set_option maxRecDepth 10000 in
set_option maxHeartbeats 1000000 in
theorem tok_in (b off n cap : Nat) (g : Nat → Int) (p : Nat) (c : Nat) (w : World) (hn : n ≤ 65536) (hp : p < n) (hc1 : c ≤ 255) (hb : b < w.heap.size)
    (hg : ∀ i, 0 ≤ g i ∧ g i ≤ 255)
    (HC : Hid (∀ i, i < n → w.cell? ⟨b, off + i, none⟩ = some (.int .u8 (g i)))) (q0 : Nat) (neg : Bool) (hcar : (g p == 94) = neg) (hq0 : q0 = if neg = true then p + 1 else p)
    (T : List Pl.Tok) (HT : Hid (T = Pl.toks g n n q0)) :
    Calls Try.prog 22 #[.slice (some ⟨b, off, none⟩) n cap, .int .i64 p, .int .u8 c] w fun e w' =>
      ∃ e1 i1 o1, e = .returned (.tuple #[.int .i64 (e1 : Nat), .bool i1, .bool o1]) ∧ (e1, i1, o1) = Pl.setT c neg T false true ∧ Below w.heap.size w w' := by
  have c0 := HC.out p hp
  have hp2 : decide ((n : Int) ≤ (p : Int)) = false := decide_eq_false (by omega)
  have hp3 : decide ((p : Int) < 0) = false := decide_eq_false (by omega)
  have Hcar : Hid ((g p == 94) = neg) := hcar
  have Hq0 : Hid (q0 = if neg = true then p + 1 else p) := hq0
  have hql : q0 ≤ n := by rw [hq0]; split <;> omega
  clear hcar hq0
  go_enter Try.func22, Try.ntmps22
  go_upto_if 38 with fail
  go_cut [10, 11] (fun s10 s11 wc => s10 = .int .i64 q0 ∧ s11 = .bool neg ∧ w = wc)
  case first =>
    cases neg
    · have h1 : Hid (q0 = p) := Hq0.out
      have h2 : (g p == 94) = false := Hcar.out
      clear HT Hq0 Hcar
      go_wp2
      go_meet
      case rel => go_light; exact ⟨by rw [h1.out], rfl, rfl⟩
    · have h1 : Hid (q0 = p + 1) := Hq0.out
      have h2 : (g p == 94) = true := Hcar.out
      clear HT Hq0 Hcar
      go_wp2
      go_meet
      case rel => go_light; exact ⟨by rw [h1.out]; go_num, rfl, rfl⟩
  case rest =>
    obtain ⟨rfl, rfl, rfl⟩ := hcut
    clear c0 hp2 hp3 Hcar Hq0
    go_wp2
    go_loopg [10, 12, 13, 14] n (fun f s10 s12 s13 s14 wr => ∃ (q : Nat) (L : List Pl.Tok), s10 = .int .i64 q ∧ q ≤ n ∧ n ≤ f + q ∧ L.length ≤ q ∧ L ++ Pl.toks g n f q = T ∧ Three wr w.heap.size s12 s13 s14 L ∧ Below w.heap.size w wr ∧ w.heap.size ≤ wr.heap.size)
    case atStart => exact ⟨q0, [], rfl, hql, by omega, by simp, by rw [HT.out]; rfl, Three.nil _ _, Below.refl _ _, Nat.le_refl _⟩
    case round =>
      obtain ⟨q, L, rfl, hqn, hqf, hL, hLT, hT3, hB, hS⟩ := hrel
      by_cases hlt : q < n
      · have d0 : wr.cell? ⟨b, off + q, none⟩ = some (.int .u8 (g q)) := (hB.cell (p := ⟨b, off + q, none⟩) hb).trans (HC.out q hlt)
        have HLT : Hid (L ++ Pl.toks g n gk q = T) := hLT
        clear hLT
        cases h92 : (g q == 92)
        · have HN : Hid (Pl.toks g n gk q = (g q, true, q + 1) :: Pl.toks g n (gk - 1) (q + 1)) := (toks_step g n gk q hlt hqf).2 (.inl h92)
          go_wp2_with (first | (at_builtin; refine wp_app _ rfl (.tmp 68) (.tmp 73) 22 rfl w.heap.size 5 (.int .u8 0) 1 Try.underlying22 Try.info5 rfl (by decide) _ _ _ rfl (hT3.vals.alloc _) _ (.int .u8 (g q)) rfl (by simp) rfl (by omega) (by simp; omega) ?_; intro v1 w1 h1 g1; have p1 := (hT3.p1 g1).1; have s1 := g1.size; simp at s1) | (at_builtin; refine wp_app _ rfl (.tmp 75) (.tmp 76) 25 rfl w.heap.size 4 (.bool false) 1 Try.underlying25 Try.info4 rfl (by decide) _ _ _ rfl (p1.alloc _) _ (.bool true) rfl (by simp) rfl (by omega) (by simp; omega) ?_; intro v2 w2 h2 g2; have e2 := hT3.e2 g1 g2; have s2 := g2.size; simp at s2) | (at_builtin; refine wp_app _ rfl (.tmp 80) (.tmp 82) 34 rfl w.heap.size 3 (.int .i64 0) 8 Try.underlying34 Try.info3 rfl (by decide) _ _ _ rfl (e2.alloc _) _ (.int .i64 ((q : Int) + 1)) rfl (by simp) rfl (by omega) (by simp; omega) ?_; intro v3 w3 h3 g3))
          have R1 := hT3.snoc (t := (g q, true, q + 1)) h1 g1 h2 g2 h3 g3
          have R2 := hT3.below hB hS g1 g2 g3
          go_roundg (gk - 1)
          case measure => omega
          case rel => go_light; exact ⟨q + 1, L ++ [(g q, true, q + 1)], by go_num, by omega, by omega, by simp; omega, by rw [← HLT.out, HN.out]; simp, R1, R2.1, R2.2⟩
        · by_cases hq1 : q + 1 < n
          · have d1 : wr.cell? ⟨b, off + (q + 1), none⟩ = some (.int .u8 (g (q + 1))) := (hB.cell (p := ⟨b, off + (q + 1), none⟩) hb).trans (HC.out (q + 1) hq1)
            have HN : Hid (Pl.toks g n gk q = (g (q + 1), false, q + 2) :: Pl.toks g n (gk - 1) (q + 2)) := (toks_step g n gk q hlt hqf).1 h92 hq1
            go_wp2_with (first | (at_builtin; refine wp_app _ rfl (.tmp 55) (.tmp 61) 22 rfl w.heap.size 5 (.int .u8 0) 1 Try.underlying22 Try.info5 rfl (by decide) _ _ _ rfl (hT3.vals.alloc _) _ (.int .u8 (g (q + 1))) rfl (by simp) rfl (by omega) (by simp; omega) ?_; intro v1 w1 h1 g1; have p1 := (hT3.p1 g1).1; have s1 := g1.size; simp at s1) | (at_builtin; refine wp_app _ rfl (.tmp 63) (.tmp 64) 25 rfl w.heap.size 4 (.bool false) 1 Try.underlying25 Try.info4 rfl (by decide) _ _ _ rfl (p1.alloc _) _ (.bool false) rfl (by simp) rfl (by omega) (by simp; omega) ?_; intro v2 w2 h2 g2; have e2 := hT3.e2 g1 g2; have s2 := g2.size; simp at s2) | (at_builtin; refine wp_app _ rfl (.tmp 80) (.tmp 82) 34 rfl w.heap.size 3 (.int .i64 0) 8 Try.underlying34 Try.info3 rfl (by decide) _ _ _ rfl (e2.alloc _) _ (.int .i64 ((q : Int) + 2)) rfl (by simp) rfl (by omega) (by simp; omega) ?_; intro v3 w3 h3 g3))
            have R1 := hT3.snoc (t := (g (q + 1), false, q + 2)) h1 g1 h2 g2 h3 g3
            have R2 := hT3.below hB hS g1 g2 g3
            go_roundg (gk - 1)
            case measure => omega
            case rel => go_light; exact ⟨q + 2, L ++ [(g (q + 1), false, q + 2)], by go_num, by omega, by omega, by simp; omega, by rw [← HLT.out, HN.out]; simp, R1, R2.1, R2.2⟩
          · have HN : Hid (Pl.toks g n gk q = (g q, true, q + 1) :: Pl.toks g n (gk - 1) (q + 1)) := (toks_step g n gk q hlt hqf).2 (.inr hq1)
            go_wp2_with (first | (at_builtin; refine wp_app _ rfl (.tmp 68) (.tmp 73) 22 rfl w.heap.size 5 (.int .u8 0) 1 Try.underlying22 Try.info5 rfl (by decide) _ _ _ rfl (hT3.vals.alloc _) _ (.int .u8 (g q)) rfl (by simp) rfl (by omega) (by simp; omega) ?_; intro v1 w1 h1 g1; have p1 := (hT3.p1 g1).1; have s1 := g1.size; simp at s1) | (at_builtin; refine wp_app _ rfl (.tmp 75) (.tmp 76) 25 rfl w.heap.size 4 (.bool false) 1 Try.underlying25 Try.info4 rfl (by decide) _ _ _ rfl (p1.alloc _) _ (.bool true) rfl (by simp) rfl (by omega) (by simp; omega) ?_; intro v2 w2 h2 g2; have e2 := hT3.e2 g1 g2; have s2 := g2.size; simp at s2) | (at_builtin; refine wp_app _ rfl (.tmp 80) (.tmp 82) 34 rfl w.heap.size 3 (.int .i64 0) 8 Try.underlying34 Try.info3 rfl (by decide) _ _ _ rfl (e2.alloc _) _ (.int .i64 ((q : Int) + 1)) rfl (by simp) rfl (by omega) (by simp; omega) ?_; intro v3 w3 h3 g3))
            have R1 := hT3.snoc (t := (g q, true, q + 1)) h1 g1 h2 g2 h3 g3
            have R2 := hT3.below hB hS g1 g2 g3
            go_roundg (gk - 1)
            case measure => omega
            case rel => go_light; exact ⟨q + 1, L ++ [(g q, true, q + 1)], by go_num, by omega, by omega, by simp; omega, by rw [← HLT.out, HN.out]; simp, R1, R2.1, R2.2⟩
      · have eL : L = T := by rw [← hLT, Pl.toks_end g n gk q (by omega)]; simp
        have hrg : ∀ i, 0 ≤ (L.getD i (0, false, 0)).1 ∧ (L.getD i (0, false, 0)).1 ≤ 255 := fun i => by rw [eL, HT.out]; exact Pl.toks_rng_at g n hg n q0 i
        subst eL
        clear hLT HT
        by_cases hT2 : 2 ≤ L.length
        · obtain ⟨gv, cv, e12, hv0, hv1, hv2⟩ := owns_form hT3.vals (by omega)
          obtain ⟨gp, cp, e13, hp0, hp1, hp2⟩ := owns_form hT3.plain (by omega)
          obtain ⟨ge, ce, e14, he0, he1, he2⟩ := owns_form hT3.ends (by omega)
          subst e12 e13 e14
          have CV : Hid (∀ i, i < L.length → wr.cell? ⟨gv, i, none⟩ = some (.int .u8 (L.getD i (0, false, 0)).1)) := fun i hi => by rw [hv2 i hi]; simp [hi]
          have CP : Hid (∀ i, i < L.length → wr.cell? ⟨gp, i, none⟩ = some (.bool (L.getD i (0, false, 0)).2.1)) := fun i hi => by rw [hp2 i hi]; simp [hi]
          have CE : Hid (∀ i, i < L.length → wr.cell? ⟨ge, i, none⟩ = some (.int .i64 ((L.getD i (0, false, 0)).2.2 : Int))) := fun i hi => by rw [he2 i hi]; simp [hi]
          clear hv2 hp2 he2 hT3
          have hLn : L.length ≤ 65536 := by omega
          have Hcl : Hid (∀ i, Pl.closes (L.getD i (0, false, 0)) = ((L.getD i (0, false, 0)).2.1 && (L.getD i (0, false, 0)).1 == 93)) := fun i => rfl
          have Hds : Hid (∀ i, Pl.dash (L.getD i (0, false, 0)) = ((L.getD i (0, false, 0)).2.1 && (L.getD i (0, false, 0)).1 == 45)) := fun i => rfl
          obtain ⟨tv, Htv⟩ : ∃ f : Nat → Int, Hid (∀ i, (L.getD i (0, false, 0)).1 = f i) := ⟨_, fun i => rfl⟩
          obtain ⟨tp, Htp⟩ : ∃ f : Nat → Bool, Hid (∀ i, (L.getD i (0, false, 0)).2.1 = f i) := ⟨_, fun i => rfl⟩
          obtain ⟨te, Hte⟩ : ∃ f : Nat → Nat, Hid (∀ i, (L.getD i (0, false, 0)).2.2 = f i) := ⟨_, fun i => rfl⟩
          have CV : Hid (∀ i, i < L.length → wr.cell? ⟨gv, i, none⟩ = some (.int .u8 (tv i))) := fun i hi => by rw [← Htv.out]; exact CV.out i hi
          have CP : Hid (∀ i, i < L.length → wr.cell? ⟨gp, i, none⟩ = some (.bool (tp i))) := fun i hi => by rw [← Htp.out]; exact CP.out i hi
          have CE : Hid (∀ i, i < L.length → wr.cell? ⟨ge, i, none⟩ = some (.int .i64 (te i : Int))) := fun i hi => by rw [← Hte.out]; exact CE.out i hi
          have hrv : ∀ i, 0 ≤ tv i ∧ tv i ≤ 255 := fun i => by rw [← Htv.out]; exact hrg i
          have Hrv : Hid (∀ i, 0 ≤ tv i ∧ tv i ≤ 255) := hrv
          have Hcl : Hid (∀ i, Pl.closes (L.getD i (0, false, 0)) = (tp i && tv i == 93)) := fun i => by rw [Hcl.out, Htv.out, Htp.out]
          have Hds : Hid (∀ i, Pl.dash (L.getD i (0, false, 0)) = (tp i && tv i == 45)) := fun i => by rw [Hds.out, Htv.out, Htp.out]
          clear hrg hrv hg
          go_wp2
          go_loopg [15, 16] L.length (fun f s15 s16 wx => ∃ i : Nat, s15 = .int .i64 (-1) ∧ s16 = .int .i64 i ∧ 1 ≤ i ∧ f + i = L.length + 1 ∧ (∀ j, 1 ≤ j → j < i → Pl.closes (L.getD j (0, false, 0)) = false) ∧ wr = wx)
          case atStart => exact ⟨1, rfl, rfl, by omega, by omega, fun j h1 h2 => by omega, rfl⟩
          case round =>
            obtain ⟨i, rfl, rfl, hi1, hif, hno, rfl⟩ := hrel
            have Hno : Hid (∀ j, 1 ≤ j → j < i → Pl.closes (L.getD j (0, false, 0)) = false) := hno
            clear hno
            by_cases hi : i < L.length
            · have xp := CP.out i hi
              have xv := CV.out i hi
              cases h1 : tp i
              · have Hi : Hid (Pl.closes (L.getD i (0, false, 0)) = false) := by rw [Hcl.out, h1]; rfl
                go_wp2
                go_roundg (gk - 1)
                case measure => omega
                case rel => go_light; exact ⟨i + 1, rfl, by go_num, by omega, by omega, fun j a b => by by_cases e : j = i; (subst e; exact Hi.out); exact Hno.out j a (by omega), rfl⟩
              · cases h2 : (tv i == 93)
                · have Hi : Hid (Pl.closes (L.getD i (0, false, 0)) = false) := by rw [Hcl.out, h1, h2]; rfl
                  go_wp2
                  go_roundg (gk - 1)
                  case measure => omega
                  case rel => go_light; exact ⟨i + 1, rfl, by go_num, by omega, by omega, fun j a b => by by_cases e : j = i; (subst e; exact Hi.out); exact Hno.out j a (by omega), rfl⟩
                · have Hi : Hid (Pl.closes (L.getD i (0, false, 0)) = true) := by rw [Hcl.out, h1, h2]; rfl
                  have HF : Hid (Pl.setT c neg L false true = (te i, Pl.memL c (L.take i) false != neg, true)) := by
                    rw [← Hte.out]
                    exact Pl.setT_yes c neg (0, false, 0) _ L false true i (Nat.le_refl _) hi Hi.out (fun _ => hi1) (fun j a b => Hno.out j (a rfl) b)
                  clear Hno Hi Hcl
                  go_upto_region 29 with fail
                  clear xp xv h1 h2
                  have hz := zero28
                  go_wp2
                  clear hz
                  rename World => wa
                  have Hm1 : Hid (∀ j (inn : Bool), j + 2 < i → Pl.dash (L.getD (j + 1) (0, false, 0)) = true → Pl.memL c ((L.take i).drop j) inn = Pl.memL c ((L.take i).drop (j + 3)) (inn || Pl.within (tv j) (tv (j + 2)) c)) := fun j inn h1 h2 => by
                    rw [← Htv.out, ← Htv.out]; exact Pl.memL_rng c L i j inn (by omega) h1 h2
                  have Hm2 : Hid (∀ j (inn : Bool), j < i → ¬ (j + 2 < i ∧ Pl.dash (L.getD (j + 1) (0, false, 0)) = true) → Pl.memL c ((L.take i).drop j) inn = Pl.memL c ((L.take i).drop (j + 1)) (inn || Pl.within (tv j) (tv j) c)) := fun j inn h1 h2 => by
                    rw [← Htv.out]; exact Pl.memL_one c L i j inn (by omega) h1 h2
                  go_loopg [18] i (fun f s18 wx => ∃ (j : Nat) (M : Nat → Bool), s18 = .int .i64 j ∧ j ≤ i ∧ i ≤ f + j ∧ Pl.memL c (L.take i) false = Pl.memL c ((L.take i).drop j) (M c) ∧ Table wa wx M)
                  case atStart => exact ⟨0, fun _ => false, rfl, by omega, by omega, rfl, Table.start wa⟩
                  case round =>
                    rename World => wx
                    obtain ⟨j, M, rfl, hji, hjf, hmem, hTab⟩ := hrel
                    have Hmem : Hid (Pl.memL c (L.take i) false = Pl.memL c ((L.take i).drop j) (M c)) := hmem
                    clear hmem
                    by_cases hj : j < i
                    · have xv := (hTab.below.cell (p := ⟨gv, j, none⟩) hv1).trans (CV.out j (by omega))
                      have xr := Hrv.out j
                      obtain ⟨lo, hlo⟩ : ∃ lo : Nat, tv j = (lo : Int) := Int.eq_ofNat_of_zero_le xr.1
                      rw [hlo] at xv xr
                      have Hlo : Hid (tv j = (lo : Int)) := hlo
                      clear hlo
                      go_upto_region 35 with fail
                      go_cut [130] (fun s130 wy => s130 = .bool (rgT tp tv i j) ∧ wx = wy)
                      case first =>
                        by_cases e1 : j + 2 < i
                        · have yp := (hTab.below.cell (p := ⟨gp, j + 1, none⟩) hp1).trans (CP.out (j + 1) (by omega))
                          have yv := (hTab.below.cell (p := ⟨gv, j + 1, none⟩) hv1).trans (CV.out (j + 1) (by omega))
                          cases e2 : tp (j + 1)
                          · go_wp2
                            go_meet
                            case rel => go_light; exact ⟨by rw [(rgT_of tp tv i j).2.1 e2], rfl⟩
                          · cases e3 : (tv (j + 1) == 45)
                            · go_wp2
                              go_meet
                              case rel => go_light; exact ⟨by rw [(rgT_of tp tv i j).2.2.1 e3], rfl⟩
                            · go_wp2
                              go_meet
                              case rel => go_light; exact ⟨by rw [(rgT_of tp tv i j).2.2.2 e1 e2 e3], rfl⟩
                        · go_wp2
                          go_meet
                          case rel => go_light; exact ⟨by rw [(rgT_of tp tv i j).1 e1], rfl⟩
                      case rest =>
                        obtain ⟨rfl, rfl⟩ := hcut
                        go_upto_if 130 with fail
                        go_cut [20, 21] (fun s20 s21 wy => ∃ hi st : Nat, s20 = .int .u8 (hi : Int) ∧ s21 = .int .i64 (st : Int) ∧ hi ≤ 255 ∧ 1 ≤ st ∧ j + st ≤ i ∧ (∀ inn : Bool, Pl.memL c ((L.take i).drop j) inn = Pl.memL c ((L.take i).drop (j + st)) (inn || Pl.within lo hi c)) ∧ wx = wy)
                        case first =>
                          cases er : rgT tp tv i j
                          · have Hr : Hid (∀ inn : Bool, Pl.memL c ((L.take i).drop j) inn = Pl.memL c ((L.take i).drop (j + 1)) (inn || Pl.within lo lo c)) := fun inn => by
                              rw [Hm2.out j inn hj (by rw [Hds.out]; exact rgT_no er), Hlo.out]
                            go_wp2
                            go_meet
                            case rel => go_light; exact ⟨lo, 1, rfl, rfl, by omega, by omega, by omega, Hr.out, rfl⟩
                          · obtain ⟨e1, e2⟩ := rgT_yes er
                            have yr := Hrv.out (j + 2)
                            have yv := (hTab.below.cell (p := ⟨gv, j + 2, none⟩) hv1).trans (CV.out (j + 2) (by omega))
                            obtain ⟨hi, hhi⟩ : ∃ hi : Nat, tv (j + 2) = (hi : Int) := Int.eq_ofNat_of_zero_le yr.1
                            have Hr : Hid (∀ inn : Bool, Pl.memL c ((L.take i).drop j) inn = Pl.memL c ((L.take i).drop (j + 3)) (inn || Pl.within lo hi c)) := fun inn => by
                              rw [Hm1.out j inn e1 (by rw [Hds.out]; exact e2), Hlo.out, hhi]
                            rw [hhi] at yv yr
                            clear hhi e2
                            go_wp2
                            go_meet
                            case rel => go_light; exact ⟨hi, 3, rfl, rfl, by omega, by omega, by omega, Hr.out, rfl⟩
                        case rest =>
                          obtain ⟨hi, st, rfl, rfl, hhi, hst, hjs, hm, rfl⟩ := hcut
                          have Hm : Hid (∀ inn : Bool, Pl.memL c ((L.take i).drop j) inn = Pl.memL c ((L.take i).drop (j + st)) (inn || Pl.within lo hi c)) := hm
                          clear hm Hm1 Hm2
                          go_upto_if 138 with fail
                          go_cut [19, 20] (fun s19 s20 wy => ∃ a b : Nat, s19 = .int .u8 (a : Int) ∧ s20 = .int .u8 (b : Int) ∧ a ≤ b ∧ b ≤ 255 ∧ (a : Int) = min (lo : Int) hi ∧ (b : Int) = max (lo : Int) hi ∧ wx = wy)
                          case first =>
                            by_cases e1 : hi < lo
                            · go_wp2
                              go_meet
                              case rel => go_light; exact ⟨hi, lo, rfl, rfl, by omega, by omega, by omega, by omega, rfl⟩
                            · go_wp2
                              go_meet
                              case rel => go_light; exact ⟨lo, hi, rfl, rfl, by omega, by omega, by omega, by omega, rfl⟩
                          case rest =>
                            obtain ⟨a, bb, rfl, rfl, hab, hb255, hmn, hmx, rfl⟩ := hcut
                            have Hw : Hid (∀ u : Nat, (decide (a ≤ u) && decide (u < bb + 1)) = Pl.within lo hi u) := fun u => Pl.within_nat a bb lo hi u hmn hmx
                            clear hmn hmx xv xr
                            have hTab0 : Table wa wx (fun u => M u || (decide (a ≤ u) && decide (u < a))) := by
                              have e : (fun u => M u || (decide (a ≤ u) && decide (u < a))) = M := by
                                funext u
                                have : (decide (a ≤ u) && decide (u < a)) = false := by
                                  by_cases h : a ≤ u
                                  · simp [show ¬ u < a by omega]
                                  · simp [h]
                                rw [this, Bool.or_false]
                              rw [e]; exact hTab
                            clear hTab
                            go_wp2
                            go_loopg [22] (bb + 1 - a) (fun f s22 wy => ∃ v : Nat, s22 = .int .i64 v ∧ a ≤ v ∧ f + v = bb + 1 ∧ Table wa wy (fun u => M u || (decide (a ≤ u) && decide (u < v))))
                            case atStart => exact ⟨a, rfl, by omega, by omega, hTab0⟩
                            case round =>
                              rename World => wy
                              clear hTab0
                              obtain ⟨v, rfl, hav, hvf, hT⟩ := hrel
                              by_cases hv : v ≤ bb
                              · have hv256 : v < 256 := by omega
                                have xc := hT.cell v hv256
                                have xf := hT.frozen v hv256
                                have hT2 := hT.mark a v hv256 hav
                                generalize (M v || (decide (a ≤ v) && decide (v < v))) = old at xc
                                clear hT
                                go_wp2
                                go_roundg (gk - 1)
                                case measure => omega
                                case rel => go_light; exact ⟨v + 1, by go_num, by omega, by omega, hT2⟩
                              · have ev : v = bb + 1 := by omega
                                subst ev
                                go_wp2
                                go_roundg (i - (j + st))
                                case measure => omega
                                case rel => go_light; exact ⟨j + st, fun u => M u || (decide (a ≤ u) && decide (u < bb + 1)), by go_num, by omega, by omega, by rw [Hmem.out, Hm.out, ← Hw.out], hT⟩
                    · have ej : j = i := by omega
                      subst ej
                      have xm := hTab.cell c (by omega)
                      have xe := (hTab.below.cell (p := ⟨ge, j, none⟩) he1).trans (CE.out j (by omega))
                      have Hin : Hid (Pl.memL c (L.take j) false = M c) := Hmem.out.trans (Pl.memL_end c L j (M c))
                      have Hbb : Hid (Below w.heap.size w wx) := hB.trans (hTab.below.mono hS)
                      clear Hmem hTab
                      cases neg
                      · go_wp2
                        go_ret3
                        exact ⟨te j, M c, true, rfl, by rw [HF.out, Hin.out]; simp, Hbb.out⟩
                      · go_wp2
                        go_ret3
                        exact ⟨te j, !M c, true, rfl, by rw [HF.out, Hin.out]; simp, Hbb.out⟩
            · have HF : Hid (Pl.setT c neg L false true = (0, false, false)) := Pl.setT_no c neg (0, false, 0) _ L false true (Nat.le_refl _) (fun j hj hl => Hno.out j (hj rfl) (by omega))
              go_wp2
              go_ret3
              exact ⟨0, false, false, rfl, HF.out.symm, hB⟩
        · obtain ⟨av, cv, e12⟩ := owns_none hT3.vals
          subst e12
          have HF : Hid (Pl.setT c neg L false true = (0, false, false)) := Pl.setT_no c neg (0, false, 0) _ L false true (Nat.le_refl _) (fun j hj hl => by have := hj rfl; omega)
          clear hT3
          go_wp2
          refine wp_loop_rounds 1 ?_
          rw [rounds_succ]
          go_wp2
          go_ret3
          exact ⟨0, false, false, rfl, HF.out.symm, hB⟩
end Go.Proofs.Qxb6602814a
