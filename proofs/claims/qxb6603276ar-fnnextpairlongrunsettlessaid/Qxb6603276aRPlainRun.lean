/-
  PLAINLY: a long run of one bit settles, by trying every state. No Go in sight.
-/
import Derived.Test.Qxb6603276aRPlain
namespace Go.Proofs.Qxb6603276aR.Pl

theorem settles_all : ∀ a, a < 49 → ∀ b, b < 49 → ∀ y, y < 2 → var a b ≠ 0 → settles a b y = true := by decide +kernel

theorem long_run (a b y : Nat) (hy : y < 2) (h : var a b ≠ 0) : it 512 a b y = target a b y := by
  have hl := var_le a b h
  have hs : it 64 a b y = target a b y := by
    have := settles_all a (by omega) b (by omega) y hy h
    unfold settles at this
    exact of_decide_eq_true this
  have e : (512 : Nat) = 64 + 448 := rfl
  rw [e, it_add y 64 448 a b, hs]
  exact it_fix _ _ y (target_fix a b y hy) 448

end Go.Proofs.Qxb6603276aR.Pl
