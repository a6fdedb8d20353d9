/-
  THE WALK of 'Rows.FnCountLeavesLastChunkOfOneToSizeBytesSaid'.
-/
import Derived.Test.Qxb6600290aRows
import Derived.Test.Qxb6600290aWalks
import Derived.WalkKit
import Derived.ProofKit
import Derived.OpenShut
import Derived.ShutString
namespace Go.Proofs.Qxb6600290a.fnCountLeavesLastChunkOfOneToSizeBytes
open Go.ChangeShapes Go.WideShapes Go.ChangeAt Go.RowKit
open Go.ChangeMaps (open_string shut_string)
open Plain
set_option linter.unusedVariables false      -- a walk need not use every 'w<i>' (that an integer argument fits its kind)

/-! ### STEP 1: THE WALK: the Go text returns true. 'Grown w w'': the world has at most new blocks (Derived/RowKit3.lean). Part the cases AHEAD of 'go_enter' where a test parts the walk; take each callee by a contract of your own. -/
theorem walk (a0 : Int) (w0 : (Lit.int .i64 a0).wf = true) (w : World) :
    Calls Try.prog 4 #[.int .i64 a0] w fun e w' => e = .returned (.bool true) ∧ Grown w w' := by
  obtain ⟨b1, b2⟩ := bounds_i64 w0
  clear w0
  by_cases h : a0 ≤ 0
  · go_enter Try.func4, Try.ntmps4
    go_wp2_with fail
    refine (count_any a0 _ b1 b2).mono ?_
    rintro e w' ⟨rfl, rfl⟩
    rw [show cnt a0 = 0 by unfold cnt; rw [if_pos h]]
    go_wp2
    go_ret
    exact ⟨rfl, Grown.refl _⟩
  · have k1 : 1 ≤ cnt a0 := by unfold cnt; rw [if_neg h]; omega
    have k2 : cnt a0 ≤ 8796093022208 := (cnt_bd a0 b2).2
    have k3 : 1 ≤ a0 - (cnt a0 - 1) * 1048576 := by unfold cnt; rw [if_neg h]; omega
    have k4 : a0 - (cnt a0 - 1) * 1048576 ≤ 1048576 := by unfold cnt; rw [if_neg h]; omega
    have hc : Calls Try.prog 12 #[.int .i64 a0] w fun e w' => e = .returned (.int .i64 (cnt a0)) ∧ w' = w := count_any a0 w b1 b2
    generalize cnt a0 = n at *
    have HC : Hid (Calls Try.prog 12 #[.int .i64 a0] w fun e w' => e = .returned (.int .i64 n) ∧ w' = w) := hc
    clear hc
    go_enter Try.func4, Try.ntmps4
    go_wp2_with fail
    refine (HC.out).mono ?_
    rintro e w' ⟨rfl, rfl⟩
    go_wp2
    go_ret
    exact ⟨rfl, Grown.refl _⟩
end Go.Proofs.Qxb6600290a.fnCountLeavesLastChunkOfOneToSizeBytes
