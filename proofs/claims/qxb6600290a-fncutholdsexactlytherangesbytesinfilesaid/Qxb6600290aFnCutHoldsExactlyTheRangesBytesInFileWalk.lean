/-
  THE WALK of 'Rows.FnCutHoldsExactlyTheRangesBytesInFileSaid'.
-/
import Derived.Test.Qxb6600290aRows
import Derived.Test.Qxb6600290aWalks
import Derived.WalkKit
import Derived.ProofKit
import Derived.OpenShut
import Derived.ShutString
namespace Go.Proofs.Qxb6600290a.fnCutHoldsExactlyTheRangesBytesInFile
open Go.ChangeShapes Go.WideShapes Go.ChangeAt Go.RowKit
open Go.ChangeMaps (open_string shut_string)
open Plain
set_option linter.unusedVariables false      -- a walk need not use every 'w<i>' (that an integer argument fits its kind)

/-! ### STEP 1: THE WALK: the Go text returns true. 'Grown w w'': the world has at most new blocks (Derived/RowKit3.lean). Part the cases AHEAD of 'go_enter' where a test parts the walk; take each callee by a contract of your own. -/
theorem walk (a0 : Int) (a1 : Int) (a2 : Int) (a3 : Int) (w0 : (Lit.int .i64 a0).wf = true) (w1 : (Lit.int .i64 a1).wf = true) (w2 : (Lit.int .i64 a2).wf = true) (w3 : (Lit.int .i64 a3).wf = true) (w : World) :
    Calls Try.prog 7 #[.int .i64 a0, .int .i64 a1, .int .i64 a2, .int .i64 a3] w fun e w' => e = .returned (.bool true) ∧ Grown w w' := by
  obtain ⟨b1, b2⟩ := bounds_i64 w0
  obtain ⟨b3, b4⟩ := bounds_i64 w1
  obtain ⟨b5, b6⟩ := bounds_i64 w2
  obtain ⟨b7, b8⟩ := bounds_i64 w3
  clear w0 w1 w2 w3
  have hb := cut_bd a0 a1 a2 b6
  have hm := cut_mem a0 a1 a2 a3
  have hr2 : inR a3 a0 a1 = true ↔ (0 < a1 ∧ a0 ≤ a3 ∧ a3 < a0 + a1) := by unfold inR; simp
  rw [← hr2] at hm
  clear hr2
  have HC : Hid (Calls Try.prog 14 #[.int .i64 a0, .int .i64 a1, .int .i64 a2] w fun e w' => e = .returned (.tuple #[.int .i64 (cutLo a0 a1 a2), .int .i64 (cutHi a0 a1 a2)]) ∧ w' = w) := cut_any a0 a1 a2 w b1 b2 b3 b4 b5 b6
  have HI : Hid (Calls Try.prog 16 #[.int .i64 a3, .int .i64 a0, .int .i64 a1] w fun e w' => e = .returned (.bool (inR a3 a0 a1)) ∧ w' = w) := inRange_any a3 a0 a1 w b7 b8 b1 b2 b3 b4
  generalize cutLo a0 a1 a2 = lo at *
  generalize cutHi a0 a1 a2 = hi at *
  generalize inR a3 a0 a1 = r at *
  obtain ⟨l1, l2, l3⟩ := hb
  rcases l3 with ⟨rfl, rfl⟩ | ⟨l3, l4⟩
  · by_cases p0 : 0 ≤ a3
    · have d0 : decide (a3 < 0) = false := decide_eq_false (by omega)
      by_cases p1 : a3 < a2
      · cases r
        · clear hm
          go_enter Try.func7, Try.ntmps7
          go_wp2_with fail
          refine (HC.out).mono ?_
          rintro e w' ⟨rfl, rfl⟩
          go_wp2_with fail
          refine (HI.out).mono ?_
          rintro e w' ⟨rfl, rfl⟩
          go_wp2
          go_ret
          exact ⟨rfl, Grown.refl _⟩
        · exact absurd (hm.2 ⟨p0, p1, rfl⟩) (by omega)
      · clear hm
        go_enter Try.func7, Try.ntmps7
        go_wp2_with fail
        refine (HC.out).mono ?_
        rintro e w' ⟨rfl, rfl⟩
        go_wp2
        go_ret
        exact ⟨rfl, Grown.refl _⟩
    · clear hm
      go_enter Try.func7, Try.ntmps7
      go_wp2_with fail
      refine (HC.out).mono ?_
      rintro e w' ⟨rfl, rfl⟩
      go_wp2
      go_ret
      exact ⟨rfl, Grown.refl _⟩
  · by_cases p0 : 0 ≤ a3
    · by_cases p1 : a3 < a2
      · cases r
        · have nm : ¬ (lo ≤ a3 ∧ a3 < hi) := fun h => by have := (hm.1 h).2.2; cases this
          clear hm
          by_cases q0 : lo ≤ a3
          · have q1 : hi ≤ a3 := by omega
            have d1 : decide (a3 < hi) = false := decide_eq_false (by omega)
            clear nm
            go_enter Try.func7, Try.ntmps7
            go_wp2_with fail
            refine (HC.out).mono ?_
            rintro e w' ⟨rfl, rfl⟩
            go_wp2_with fail
            refine (HI.out).mono ?_
            rintro e w' ⟨rfl, rfl⟩
            go_wp2
            go_ret
            exact ⟨rfl, Grown.refl _⟩
          · clear nm
            go_enter Try.func7, Try.ntmps7
            go_wp2_with fail
            refine (HC.out).mono ?_
            rintro e w' ⟨rfl, rfl⟩
            go_wp2_with fail
            refine (HI.out).mono ?_
            rintro e w' ⟨rfl, rfl⟩
            go_wp2
            go_ret
            exact ⟨rfl, Grown.refl _⟩
        · obtain ⟨q0, q1⟩ := hm.2 ⟨p0, p1, rfl⟩
          clear hm
          go_enter Try.func7, Try.ntmps7
          go_wp2_with fail
          refine (HC.out).mono ?_
          rintro e w' ⟨rfl, rfl⟩
          go_wp2_with fail
          refine (HI.out).mono ?_
          rintro e w' ⟨rfl, rfl⟩
          go_wp2
          go_ret
          exact ⟨rfl, Grown.refl _⟩
      · clear hm
        have q1 : hi ≤ a3 := by omega
        have d1 : decide (a3 < hi) = false := decide_eq_false (by omega)
        have q0 : lo ≤ a3 := by omega
        go_enter Try.func7, Try.ntmps7
        go_wp2_with fail
        refine (HC.out).mono ?_
        rintro e w' ⟨rfl, rfl⟩
        go_wp2
        go_ret
        exact ⟨rfl, Grown.refl _⟩
    · clear hm
      have q0 : a3 < lo := by omega
      go_enter Try.func7, Try.ntmps7
      go_wp2_with fail
      refine (HC.out).mono ?_
      rintro e w' ⟨rfl, rfl⟩
      go_wp2
      go_ret
      exact ⟨rfl, Grown.refl _⟩
end Go.Proofs.Qxb6600290a.fnCutHoldsExactlyTheRangesBytesInFile
