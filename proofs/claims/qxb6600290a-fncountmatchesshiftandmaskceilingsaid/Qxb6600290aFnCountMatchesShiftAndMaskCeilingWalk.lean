/-
  THE WALK of 'Rows.FnCountMatchesShiftAndMaskCeilingSaid'.
-/
import Derived.Test.Qxb6600290aRows
import Derived.Test.Qxb6600290aWalks
import Derived.WalkKit
import Derived.ProofKit
import Derived.OpenShut
import Derived.ShutString
namespace Go.Proofs.Qxb6600290a.fnCountMatchesShiftAndMaskCeiling
open Go.ChangeShapes Go.WideShapes Go.ChangeAt Go.RowKit
open Go.ChangeMaps (open_string shut_string)
open Plain
set_option linter.unusedVariables false      -- a walk need not use every 'w<i>' (that an integer argument fits its kind)

/-! ### STEP 1: THE WALK: the Go text returns true. 'Grown w w'': the world has at most new blocks (Derived/RowKit3.lean). Part the cases AHEAD of 'go_enter' where a test parts the walk; take each callee by a contract of your own. -/
theorem walk (a0 : Int) (w0 : (Lit.int .i64 a0).wf = true) (w : World) :
    Calls Try.prog 3 #[.int .i64 a0] w fun e w' => e = .returned (.bool true) ∧ Grown w w' := by
  obtain ⟨b1, b2⟩ := bounds_i64 w0
  clear w0
  by_cases h : a0 ≤ 0
  · go_enter Try.func3, Try.ntmps3
    go_wp2_with fail
    refine (count_any a0 _ b1 b2).mono ?_
    rintro e w' ⟨rfl, rfl⟩
    rw [show cnt a0 = 0 by unfold cnt; rw [if_pos h]]
    go_wp2
    go_ret
    exact ⟨rfl, Grown.refl _⟩
  · go_enter Try.func3, Try.ntmps3
    go_wp2_with fail
    refine (count_any a0 _ b1 b2).mono ?_
    rintro e w' ⟨rfl, rfl⟩
    rw [cnt_ceil a0 (by omega)]
    go_wp2_with fail
    refine (ceil_any a0 _ (by omega) b2).mono ?_
    rintro e w' ⟨rfl, rfl⟩
    go_wp2
    go_ret
    exact ⟨rfl, Grown.refl _⟩
end Go.Proofs.Qxb6600290a.fnCountMatchesShiftAndMaskCeiling
