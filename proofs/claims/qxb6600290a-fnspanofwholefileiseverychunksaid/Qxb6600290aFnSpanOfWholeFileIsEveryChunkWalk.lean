/-
  THE WALK of 'Rows.FnSpanOfWholeFileIsEveryChunkSaid'.
-/
import Derived.Test.Qxb6600290aRows
import Derived.Test.Qxb6600290aWalks
import Derived.WalkKit
import Derived.ProofKit
import Derived.OpenShut
import Derived.ShutString
namespace Go.Proofs.Qxb6600290a.fnSpanOfWholeFileIsEveryChunk
open Go.ChangeShapes Go.WideShapes Go.ChangeAt Go.RowKit
open Go.ChangeMaps (open_string shut_string)
open Plain
set_option linter.unusedVariables false      -- a walk need not use every 'w<i>' (that an integer argument fits its kind)

/-! ### STEP 1: THE WALK: the Go text returns true. 'Grown w w'': the world has at most new blocks (Derived/RowKit3.lean). Part the cases AHEAD of 'go_enter' where a test parts the walk; take each callee by a contract of your own. -/
theorem walk (a0 : Int) (a1 : Int) (w0 : (Lit.int .i64 a0).wf = true) (w1 : (Lit.int .i64 a1).wf = true) (w : World) :
    Calls Try.prog 11 #[.int .i64 a0, .int .i64 a1] w fun e w' => e = .returned (.bool true) ∧ Grown w w' := by
  obtain ⟨b1, b2⟩ := bounds_i64 w0
  obtain ⟨b3, b4⟩ := bounds_i64 w1
  clear w0 w1
  by_cases h : a0 < a1
  · go_enter Try.func11, Try.ntmps11
    go_wp2
    go_ret
    exact ⟨rfl, Grown.refl _⟩
  · have HS : Hid (Calls Try.prog 17 #[.int .i64 0, .int .i64 a0, .int .i64 a1] w fun e w' => e = .returned (.tuple #[.int .i64 0, .int .i64 (cnt a1)]) ∧ w' = w) := by
      have := span_any 0 a0 a1 w (by omega) (by omega) b1 b2 b3 b4
      obtain ⟨e1, e2⟩ := whole a0 a1 (by omega)
      rw [e1, e2] at this
      exact this
    go_enter Try.func11, Try.ntmps11
    go_wp2_with fail
    refine (HS.out).mono ?_
    rintro e w' ⟨rfl, rfl⟩
    go_wp2_with fail
    refine (count_any a1 _ b3 b4).mono ?_
    rintro e w' ⟨rfl, rfl⟩
    go_wp2
    go_ret
    exact ⟨rfl, Grown.refl _⟩
end Go.Proofs.Qxb6600290a.fnSpanOfWholeFileIsEveryChunk
