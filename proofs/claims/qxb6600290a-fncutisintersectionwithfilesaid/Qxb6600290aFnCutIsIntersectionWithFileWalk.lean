/-
  THE WALK of 'Rows.FnCutIsIntersectionWithFileSaid'.
-/
import Derived.Test.Qxb6600290aRows
import Derived.Test.Qxb6600290aWalks
import Derived.WalkKit
import Derived.ProofKit
import Derived.OpenShut
import Derived.ShutString
namespace Go.Proofs.Qxb6600290a.fnCutIsIntersectionWithFile
open Go.ChangeShapes Go.WideShapes Go.ChangeAt Go.RowKit
open Go.ChangeMaps (open_string shut_string)
open Plain
set_option linter.unusedVariables false      -- a walk need not use every 'w<i>' (that an integer argument fits its kind)

/-! ### STEP 1: THE WALK: the Go text returns true. 'Grown w w'': the world has at most new blocks (Derived/RowKit3.lean). Part the cases AHEAD of 'go_enter' where a test parts the walk; take each callee by a contract of your own. -/
theorem walk (a0 : Int) (a1 : Int) (a2 : Int) (w0 : (Lit.int .i64 a0).wf = true) (w1 : (Lit.int .i64 a1).wf = true) (w2 : (Lit.int .i64 a2).wf = true) (w : World) :
    Calls Try.prog 6 #[.int .i64 a0, .int .i64 a1, .int .i64 a2] w fun e w' => e = .returned (.bool true) ∧ Grown w w' := by
  obtain ⟨b1, b2⟩ := bounds_i64 w0
  obtain ⟨b3, b4⟩ := bounds_i64 w1
  obtain ⟨b5, b6⟩ := bounds_i64 w2
  clear w0 w1 w2
  go_enter Try.func6, Try.ntmps6
  go_wp2_with fail
  refine (cut_any a0 a1 a2 _ b1 b2 b3 b4 b5 b6).mono ?_
  rintro e w' ⟨rfl, rfl⟩
  go_wp2_with fail
  refine (model_any a0 a1 a2 _ b1 b2 b3 b4 b5 b6).mono ?_
  rintro e w' ⟨rfl, rfl⟩
  go_wp2
  go_ret
  exact ⟨rfl, Grown.refl _⟩
end Go.Proofs.Qxb6600290a.fnCutIsIntersectionWithFile
