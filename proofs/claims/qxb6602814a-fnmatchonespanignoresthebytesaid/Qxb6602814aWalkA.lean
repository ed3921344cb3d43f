/-
  THE WALK of inSet: it computes 'Pl.inSet' and leaves the world as it was.
-/
import Derived.Test.Qxb6602814aProg
import Derived.Test.Qxb6602814aPlain
import Derived.WalkKit
import Derived.WalkSpells
import Derived.WalkLawsBesides
import Derived.Deep.LoopGhost
import Derived.Deep.Cut
import Derived.Deep.CutRange
import Derived.Deep.DeepCutAuto
import Derived.Deep.Light
namespace Go.Proofs.Qxb6602814a
open Go.RowKit

theorem caret_of (g : Nat → Int) (n p : Nat) : (p < n → (g p == 94) = true → Pl.caret g n p = true) ∧ (p < n → (g p == 94) = false → Pl.caret g n p = false) ∧ (¬ p < n → Pl.caret g n p = false) := by
  unfold Pl.caret
  refine ⟨fun a b => by simp [a, b], fun a b => by simp [b], fun a => by simp [a]⟩

theorem ret_set {e1 e2 : Nat} {i1 o1 i2 o2 : Bool} (h : (e1, i1, o1) = (e2, i2, o2)) : Ending.returned (.tuple #[.int .i64 (e2 : Int), .bool i2, .bool o2]) = .returned (.tuple #[.int .i64 (e1 : Int), .bool i1, .bool o1]) := by
  simp only [Prod.mk.injEq] at h
  obtain ⟨rfl, rfl, rfl⟩ := h
  rfl

theorem setLoop_out (g : Nat → Int) (n : Nat) (c : Int) (neg : Bool) (f k : Nat) (inn first : Bool) (h : ¬ k < n) : Pl.setLoop g n c neg f k inn first = (0, false, false) := by
  cases f with
  | zero => rfl
  | succ f => unfold Pl.setLoop; rw [if_neg h]
theorem setLoop_close (g : Nat → Int) (n : Nat) (c : Int) (neg : Bool) (f k : Nat) (inn : Bool) (hf : n ≤ f + k) (h : k < n) (h2 : (g k == 93) = true) : Pl.setLoop g n c neg f k inn false = (k + 1, inn != neg, true) := by
  cases f with
  | zero => omega
  | succ f => unfold Pl.setLoop; rw [if_pos h, if_pos ⟨h2, rfl⟩]
theorem setLoop_go (g : Nat → Int) (n : Nat) (c : Int) (neg : Bool) (f k : Nat) (inn first : Bool) (h : k < n) (h2 : ¬ ((g k == 93) = true ∧ first = false)) :
    Pl.setLoop g n c neg (f + 1) k inn first = Pl.setLoop g n c neg f (Pl.hiAt g n (Pl.loAt g n k) + 1) (inn || Pl.within (g (Pl.loAt g n k)) (g (Pl.hiAt g n (Pl.loAt g n k))) c) false := by
  conv => lhs; unfold Pl.setLoop
  rw [if_pos h, if_neg h2]

def esc (g : Nat → Int) (n k : Nat) : Bool := (g k == 92) && decide (k + 1 < n)
theorem esc_of (g : Nat → Int) (n k : Nat) : ((g k == 92) = false → esc g n k = false) ∧ ((g k == 92) = true → k + 1 < n → esc g n k = true) ∧ (¬ k + 1 < n → esc g n k = false) := by
  unfold esc
  refine ⟨fun a => by simp [a], fun a b => by simp [a, b], fun a => by simp [a]⟩
theorem esc_lt (g : Nat → Int) (n k : Nat) (h : esc g n k = true) : k + 1 < n := by
  simp [esc] at h; exact h.2
theorem lo_no (g : Nat → Int) (n k : Nat) (h : esc g n k = false) : Pl.loAt g n k = k := by
  unfold Pl.loAt; rw [if_neg]; simp [esc] at h ⊢; exact h
theorem lo_yes (g : Nat → Int) (n k : Nat) (h : esc g n k = true) : Pl.loAt g n k = k + 1 := by
  unfold Pl.loAt; rw [if_pos]; simp [esc] at h ⊢; exact h

def rng (g : Nat → Int) (n q : Nat) : Bool := decide (q + 2 < n) && ((g (q + 1) == 45) && (g (q + 2) != 93))
theorem rng_of (g : Nat → Int) (n q : Nat) : (¬ q + 2 < n → rng g n q = false) ∧ ((g (q + 1) == 45) = false → rng g n q = false) ∧ ((g (q + 2) != 93) = false → rng g n q = false) ∧
    (q + 2 < n → (g (q + 1) == 45) = true → (g (q + 2) != 93) = true → rng g n q = true) := by
  unfold rng
  refine ⟨fun a => by simp [a], fun a => by simp [a], fun a => by simp [a], fun a b d => by simp [a, b, d]⟩
theorem rng_lt (g : Nat → Int) (n q : Nat) (h : rng g n q = true) : q + 2 < n := by
  simp [rng] at h; exact h.1
theorem hi_no (g : Nat → Int) (n q : Nat) (h : rng g n q = false) : Pl.hiAt g n q = q := by
  unfold Pl.hiAt; rw [if_neg]; simp [rng] at h ⊢; exact h
theorem hi_yes (g : Nat → Int) (n q : Nat) (h : rng g n q = true) (h2 : (g (q + 2) == 92) = false ∨ ¬ q + 3 < n) : Pl.hiAt g n q = q + 2 := by
  unfold Pl.hiAt; rw [if_pos (by simp [rng] at h ⊢; exact h), if_neg]; intro hh; rcases h2 with h2 | h2
  · rw [h2] at hh; simp at hh
  · exact h2 hh.2
theorem hi_esc (g : Nat → Int) (n q : Nat) (h : rng g n q = true) (h2 : (g (q + 2) == 92) = true) (h3 : q + 3 < n) : Pl.hiAt g n q = q + 3 := by
  unfold Pl.hiAt; rw [if_pos (by simp [rng] at h ⊢; exact h), if_pos ⟨h2, h3⟩]

set_option maxRecDepth 10000 in
set_option maxHeartbeats 1000000 in
theorem inSet_core (b off n cap : Nat) (g : Nat → Int) (p : Nat) (c : Int) (w : World) (hn : n ≤ 1048576) (hp : p ≤ 1048577) (e1 : Nat) (i1 o1 : Bool)
    (HS : Hid ((e1, i1, o1) = Pl.setLoop g n c (Pl.caret g n p) n (if Pl.caret g n p then p + 1 else p) false true))
    (HC : Hid (∀ i, i < n → w.cell? ⟨b, off + i, none⟩ = some (.int .u8 (g i)))) :
    Calls Try.prog 26 #[.slice (some ⟨b, off, none⟩) n cap, .int .i64 p, .int .u8 c] w fun e w' =>
      e = .returned (.tuple #[.int .i64 (e1 : Int), .bool i1, .bool o1]) ∧ w' = w := by
  have hc0 : p < n → w.cell? ⟨b, off + p, none⟩ = some (.int .u8 (g p)) := HC.out p
  go_enter Try.func26, Try.ntmps26
  go_upto_region 1 with fail
  go_cut [9] (fun s9 wc => s9 = .bool (Pl.caret g n p) ∧ w = wc)
  case first =>
    by_cases h1 : p < n
    · cases h2 : (g p == 94)
      · go_wp2
        go_meet
        case rel => go_light; exact ⟨by rw [(caret_of g n p).2.1 h1 h2], rfl⟩
      · go_wp2
        go_meet
        case rel => go_light; exact ⟨by rw [(caret_of g n p).1 h1 h2], rfl⟩
    · go_wp2
      go_meet
      case rel => go_light; exact ⟨by rw [(caret_of g n p).2.2 h1], rfl⟩
  case rest =>
    obtain ⟨rfl, rfl⟩ := hcut
    clear hc0
    generalize Pl.caret g n p = neg at *
    go_upto_if 24 with fail
    go_cut [1] (fun s1 wx => s1 = .int .i64 ((if neg = true then p + 1 else p : Nat) : Int) ∧ w = wx)
    case first =>
      cases neg
      · go_wp2
        go_meet
        case rel => go_light; exact ⟨rfl, rfl⟩
      · go_wp2
        go_meet
        case rel => go_light; exact ⟨by go_num, rfl⟩
    case rest =>
      obtain ⟨rfl, rfl⟩ := hcut
      have hp' : (if neg = true then p + 1 else p) ≤ 1048578 := by split <;> omega
      generalize (if neg = true then p + 1 else p) = p0 at *
      go_wp2
      go_loopg [1, 7, 10] n (fun f s1 s7 s10 wr => ∃ (k : Nat) (inn first : Bool), s1 = .int .i64 k ∧ s7 = .bool inn ∧ s10 = .bool first ∧ k ≤ 1048578 ∧ n ≤ f + k ∧ (e1, i1, o1) = Pl.setLoop g n c neg f k inn first ∧ w = wr)
      case atStart => exact ⟨p0, false, true, rfl, rfl, rfl, hp', by omega, HS.out, rfl⟩
      case round =>
        obtain ⟨k, inn, first, rfl, rfl, rfl, hk, hf, hR, rfl⟩ := hrel
        clear HS
        have HR : Hid ((e1, i1, o1) = Pl.setLoop g n c neg gk k inn first) := hR
        clear hR
        by_cases hlt : k < n
        · have ck := HC.out k hlt
          by_cases hcl : (g k == 93) = true ∧ first = false
          · obtain ⟨h93, rfl⟩ := hcl
            have HF : Hid ((e1, i1, o1) = (k + 1, inn != neg, true)) := HR.out.trans (setLoop_close g n c neg gk k inn hf hlt h93)
            go_wp2
            go_ret3
            exact ⟨ret_set HF.out, rfl⟩
          · obtain ⟨f, rfl⟩ : ∃ f, gk = f + 1 := ⟨gk - 1, by omega⟩
            have HG : Hid ((e1, i1, o1) = Pl.setLoop g n c neg f (Pl.hiAt g n (Pl.loAt g n k) + 1) (inn || Pl.within (g (Pl.loAt g n k)) (g (Pl.hiAt g n (Pl.loAt g n k))) c) false) := HR.out.trans (setLoop_go g n c neg f k inn first hlt hcl)
            clear HR
            go_upto_region 7 with fail
            go_cut [39] (fun s39 wx => s39 = .bool false ∧ w = wx)
            case first =>
              cases h93 : (g k == 93)
              · go_wp2
                go_meet
                case rel => exact ⟨rfl, rfl⟩
              · cases first
                · exact absurd ⟨h93, rfl⟩ hcl
                · go_wp2
                  go_meet
                  case rel => exact ⟨rfl, rfl⟩
            case rest =>
              obtain ⟨rfl, rfl⟩ := hcut
              clear hcl
              go_upto_region 10 with fail
              go_cut [57] (fun s57 wx => s57 = .bool (esc g n k) ∧ w = wx)
              case first =>
                cases h92 : (g k == 92)
                · go_wp2
                  go_meet
                  case rel => exact ⟨by rw [(esc_of g n k).1 h92], rfl⟩
                · by_cases hk1 : k + 1 < n
                  · go_wp2
                    go_meet
                    case rel => exact ⟨by rw [(esc_of g n k).2.1 h92 hk1]; simp; omega, rfl⟩
                  · go_wp2
                    go_meet
                    case rel => exact ⟨by rw [(esc_of g n k).2.2 hk1]; simp; omega, rfl⟩
              case rest =>
                obtain ⟨rfl, rfl⟩ := hcut
                go_upto_if 57 with fail
                go_cut [1, 11] (fun s1 s11 wx => s1 = .int .i64 (Pl.loAt g n k : Nat) ∧ s11 = .int .u8 (g (Pl.loAt g n k)) ∧ w = wx)
                case first =>
                  cases he : esc g n k
                  · have HL : Hid (Pl.loAt g n k = k) := lo_no g n k he
                    go_wp2
                    go_meet
                    case rel => exact ⟨by rw [HL.out], by rw [HL.out], rfl⟩
                  · have HL : Hid (Pl.loAt g n k = k + 1) := lo_yes g n k he
                    have hk1 : k + 1 < n := esc_lt g n k he
                    have ck1 := HC.out (k + 1) hk1
                    go_wp2
                    go_meet
                    case rel => exact ⟨by rw [HL.out]; go_num, by rw [HL.out], rfl⟩
                case rest =>
                  obtain ⟨rfl, rfl, rfl⟩ := hcut
                  have hq1 := Pl.loAt_ge g n k
                  have hq2 := Pl.loAt_lt g n k hlt
                  clear ck
                  generalize Pl.loAt g n k = q at *
                  have d1 := HC.out (q + 1)
                  have d2 := HC.out (q + 2)
                  have HG2 := HG
                  clear HG
                  go_upto_region 14 with fail
                  go_cut [85] (fun s85 wx => s85 = .bool (rng g n q) ∧ w = wx)
                  case first =>
                    by_cases e1 : q + 2 < n
                    · have d1' := d1 (by omega)
                      have d2' := d2 e1
                      clear d1 d2
                      cases e2 : (g (q + 1) == 45)
                      · go_wp2
                        go_meet
                        case rel => exact ⟨by rw [(rng_of g n q).2.1 e2], rfl⟩
                      · cases e3 : (g (q + 2) != 93)
                        · go_wp2
                          go_meet
                          case rel => exact ⟨by rw [(rng_of g n q).2.2.1 e3], rfl⟩
                        · go_wp2
                          go_meet
                          case rel => exact ⟨by rw [(rng_of g n q).2.2.2 e1 e2 e3], rfl⟩
                    · clear d1 d2
                      go_wp2
                      go_meet
                      case rel => exact ⟨by rw [(rng_of g n q).1 e1], rfl⟩
                  case rest =>
                    obtain ⟨rfl, rfl⟩ := hcut
                    clear d1 d2
                    go_upto_if 85 with fail
                    go_cut [1, 12] (fun s1 s12 wx => s1 = .int .i64 (Pl.hiAt g n q : Nat) ∧ s12 = .int .u8 (g (Pl.hiAt g n q)) ∧ w = wx)
                    case first =>
                      cases he : rng g n q
                      · have HL : Hid (Pl.hiAt g n q = q) := hi_no g n q he
                        go_wp2
                        go_meet
                        case rel => exact ⟨by rw [HL.out], by rw [HL.out], rfl⟩
                      · have hk1 : q + 2 < n := rng_lt g n q he
                        have ck1 := HC.out (q + 2) hk1
                        cases e1 : (g (q + 2) == 92)
                        · have HL : Hid (Pl.hiAt g n q = q + 2) := hi_yes g n q he (.inl e1)
                          go_wp2
                          go_meet
                          case rel => exact ⟨by rw [HL.out]; go_num, by rw [HL.out], rfl⟩
                        · by_cases e2 : q + 3 < n
                          · have ck3 := HC.out (q + 3) e2
                            have HL : Hid (Pl.hiAt g n q = q + 3) := hi_esc g n q he e1 e2
                            go_wp2
                            go_meet
                            case rel => exact ⟨by rw [HL.out]; go_num, by rw [HL.out], rfl⟩
                          · have HL : Hid (Pl.hiAt g n q = q + 2) := hi_yes g n q he (.inr e2)
                            go_wp2
                            go_meet
                            case rel => exact ⟨by rw [HL.out]; go_num, by rw [HL.out], rfl⟩
                    case rest =>
                      obtain ⟨rfl, rfl, rfl⟩ := hcut
                      have hr1 := Pl.hiAt_ge g n q
                      have hr2 := Pl.hiAt_lt g n q hq2
                      generalize Pl.hiAt g n q = r at *
                      generalize g q = lo at *
                      generalize g r = hi at *
                      go_upto_region 20 with fail
                      go_cut [11, 12] (fun s11 s12 wx => s11 = .int .u8 (min lo hi) ∧ s12 = .int .u8 (max lo hi) ∧ w = wx)
                      case first =>
                        go_wp2
                        all_goals
                          go_meet
                          case rel => go_light; exact ⟨congrArg _ (by omega), congrArg _ (by omega), rfl⟩
                      case rest =>
                        obtain ⟨rfl, rfl, rfl⟩ := hcut
                        have HW : Hid (Pl.within lo hi c = (decide (min lo hi ≤ c) && decide (c ≤ max lo hi))) := rfl
                        generalize min lo hi = mn at *
                        generalize max lo hi = mx at *
                        cases inn
                        · by_cases hm : mn ≤ c
                          · go_wp2
                            go_roundg f
                            case measure => omega
                            case rel => go_light; exact ⟨r + 1, decide (c ≤ mx), false, by go_num, rfl, rfl, by omega, by omega, HG2.out.trans (by rw [HW.out, decide_eq_true hm]; simp), rfl⟩
                          · go_wp2
                            go_roundg f
                            case measure => omega
                            case rel => go_light; exact ⟨r + 1, false, false, by go_num, rfl, rfl, by omega, by omega, HG2.out.trans (by rw [HW.out, decide_eq_false (show ¬ mn ≤ c by omega)]; simp), rfl⟩
                        · go_wp2
                          go_roundg f
                          case measure => omega
                          case rel => go_light; exact ⟨r + 1, true, false, by go_num, rfl, rfl, by omega, by omega, HG2.out.trans (by simp), rfl⟩
        · go_wp2
          go_ret3
          exact ⟨ret_set (e2 := 0) (HR.out.trans (setLoop_out g n c neg gk k inn first hlt)), rfl⟩

/-- inSet over a pattern that lies in memory. -/
theorem inSet_some (b off n cap : Nat) (g : Nat → Int) (p : Nat) (c : Int) (w : World) (hn : n ≤ 1048576) (hp : p ≤ 1048577)
    (hc : ∀ i, i < n → w.cell? ⟨b, off + i, none⟩ = some (.int .u8 (g i))) :
    Calls Try.prog 26 #[.slice (some ⟨b, off, none⟩) n cap, .int .i64 p, .int .u8 c] w fun e w' =>
      e = .returned (.tuple #[.int .i64 ((Pl.inSet g n p c).1 : Nat), .bool (Pl.inSet g n p c).2.1, .bool (Pl.inSet g n p c).2.2]) ∧ w' = w :=
  inSet_core b off n cap g p c w hn hp _ _ _ (show (_, _, _) = Pl.inSet g n p c from rfl) hc

end Go.Proofs.Qxb6602814a
