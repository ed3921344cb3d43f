/-
  THE PROOF OF 'Rows.FnValidAcceptsEveryFormattedUUIDSaid': the row's step by hand, after the tool's shells (an array of sixteen bytes, by value, comes in); the walk lies in Qxb6603700aLaw.
-/
import Derived.Test.Qxb6603700aRows
import Derived.Test.Qxb6603700aLaw
import Derived.WalkKit
import Derived.ProofKit
import Derived.OpenShut
import Derived.ShutString
import Derived.ChangeOld
import Derived.Below
namespace Go.Proofs.Qxb6603700a.fnValidAcceptsEveryFormattedUUID
open Go.ChangeShapes Go.WideShapes Go.ChangeAt Go.RowKit
set_option linter.unusedVariables false

theorem own : ownKnob Try.prog.godebug = none := by kernel_rfl
theorem laidOut : laidOutB Try.prog = true := by kernel_rfl
theorem cells26 : Try.prog.cellsOf 26 = 16 := by kernel_rfl
theorem cells5 : Try.prog.cellsOf 5 = 1 := by kernel_rfl

/-- The number that a cell holds. -/
def numOf : Option Value → Int
  | some (.int _ n) => n
  | _ => 0

theorem walk (cs : Array Value) (w : World) (hsz : cs.size = 16) (h : ∀ i, i < 16 → ∃ n : Int, cs[i]? = some (.int .u8 n) ∧ (Lit.int .u8 n).wf = true) :
    Calls Try.prog 5 #[.agg cs] w fun e w' => e = .returned (.bool true) ∧ Below w.heap.size w w' := by
  refine law_valid cs (fun i => if i < 16 then numOf cs[i]? else 0) w hsz (fun i hi => ?_) (fun i => ?_)
  · obtain ⟨n, h1, _⟩ := h i hi
    show _ = some (Value.int .u8 (if i < 16 then numOf cs[i]? else 0))
    rw [if_pos hi, h1]; rfl
  · show 0 ≤ (if i < 16 then numOf cs[i]? else 0) ∧ (if i < 16 then numOf cs[i]? else 0) ≤ 255
    by_cases hi : i < 16
    · obtain ⟨n, h1, h2⟩ := h i hi
      have e : numOf (some (.int .u8 n)) = n := rfl
      rw [if_pos hi, h1, e]; exact bounds_u8 h2
    · rw [if_neg hi]; omega

set_option maxRecDepth 100000 in
theorem lifted (os : Os) (started : os.Started) (H : Type) (enc : TypeId × Value → H) :
    ReturnsInHanded {} Try.checked os 5 .any (Rows.fnValidAcceptsEveryFormattedUUIDSpec.pre6 enc Try.prog Try.f5 Rows.fnValidAcceptsEveryFormattedUUIDRow.domain false) (Rows.fnValidAcceptsEveryFormattedUUIDSpec.post enc Try.prog Try.f5 false true false false) := by
  refine returnsInHanded_of_change (C := Try.checked) own started (by kernel_rfl) Try.func5
    (ChangeSpec.witness6 (enc := enc) (C := Try.checked) false ⟨#[], #[.agg #[.int .u8 0, .int .u8 0, .int .u8 0, .int .u8 0, .int .u8 0, .int .u8 0, .int .u8 0, .int .u8 0, .int .u8 0, .int .u8 0, .int .u8 0, .int .u8 0, .int .u8 0, .int .u8 0, .int .u8 0, .int .u8 0]], []⟩ 8 (by kernel_rfl) (by kernel_rfl) (by kernel_rfl) (by kernel_rfl)) ?_
  intro W base args ds gs before hval0 hW hcnd _
  have hval : ∀ (j : Nat) t v, Try.f5.params[j]? = some t → args[j]? = some v → Value.okWide Try.prog W .any base t v := hval0
  have hW' := hW
  obtain ⟨p, q, hA0, hV, rfl, hfz, hnd⟩ := hW
  have hA : DataW.TrodAll enc Try.prog W 0 (fun _ => true) true Try.f5.params.toList args.toList ds p := hA0
  rw [Try.params5] at hA hval
  obtain ⟨v0, vs0, d0, ds0, p0, q0, hargs, rfl, rfl, h0, r0⟩ := trodAll_cons hA
  obtain ⟨rfl, rfl, rfl⟩ := trodAll_nil r0
  obtain rfl : args = #[v0] := by cases args; simp_all
  obtain ⟨rfl, rfl⟩ := trodVars_none hV
  obtain ⟨cs, rfl, hsz, _⟩ : ∃ cs, v0 = .agg cs ∧ cs.size = Try.prog.cellsOf 26 ∧ Row.okWide Try.prog W .any base 26 cs := by
    have := hval 0 26 v0 rfl rfl
    simpa [Value.okWide, Try.underlying26] using this
  rw [cells26] at hsz
  have k0 := h0
  have lt0 : ∀ x ∈ p0, x.block < W.heap.size := by obtain ⟨m, hm⟩ := k0; exact DataW.trod_lt m _ _ _ hm
  have el : ∀ i, i < 16 → ∃ n : Int, cs[i]? = some (.int .u8 n) ∧ (Lit.int .u8 n).wf = true := by
    obtain ⟨fuel, hf⟩ := h0
    obtain ⟨xs, m, _, _, _, hl, hel⟩ := DataW.trod_array Try.underlying26 hf
    intro i hi
    have h1 := hel i hi
    rw [cells5, List.getElem?_eq_getElem (show i < xs.length by omega)] at h1
    obtain ⟨n, e1, _, e3⟩ := DataW.trod_int Try.underlying5 h1
    refine ⟨n, ?_, e3⟩
    have e2 := congrArg (fun l : List Value => l[0]?) e1
    simpa [Value.cells] using e2
  clear hA0 hval0
  refine (walk cs W hsz el).mono fun e W' ⟨he, bel⟩ => ?_
  subst he
  exact ⟨_, rfl, _, _, _, [], _, [], hW', trodAll_mk1 (shut_bool Try.underlying4 _), (trodAll_cons_mk (Below.trod laidOut (by kernel_rfl) (of_decide_eq_true (by kernel_rfl)) k0 bel lt0) trodAll_mk0), rfl, bel.frame _, fun h => by cases h⟩

theorem over : Rows.fnValidAcceptsEveryFormattedUUIDRow.holds Try.pinned (OpenSpec.ofChange Rows.fnValidAcceptsEveryFormattedUUIDSpec) :=
  OpenClaim.holds_of_wide 5 Try.f5 rfl rfl rfl rfl rfl rfl rfl ⟨rfl, rfl, rfl, rfl, rfl⟩ rfl rfl rfl rfl rfl (by kernel_rfl) Try.func5 (by kernel_rfl)
    (of_decide_eq_true (by kernel_rfl)) (by unfold Func.isWrapper; first | (rw [if_pos (by decide +kernel)]; kernel_rfl) | (rw [if_neg (by decide +kernel)]; exact ⟨rfl, rfl⟩))
    (fun os started H enc _ => lifted os started H enc)

/-- ████ THE STATEMENT ████ -/
theorem proved : Rows.FnValidAcceptsEveryFormattedUUIDSaid := over
end Go.Proofs.Qxb6603700a.fnValidAcceptsEveryFormattedUUID
