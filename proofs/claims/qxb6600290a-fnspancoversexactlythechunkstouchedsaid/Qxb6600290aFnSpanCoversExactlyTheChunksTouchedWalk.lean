/-
  THE WALK of 'Rows.FnSpanCoversExactlyTheChunksTouchedSaid'.
-/
import Derived.Test.Qxb6600290aRows
import Derived.Test.Qxb6600290aWalks
import Derived.WalkKit
import Derived.ProofKit
import Derived.OpenShut
import Derived.ShutString
namespace Go.Proofs.Qxb6600290a.fnSpanCoversExactlyTheChunksTouched
open Go.ChangeShapes Go.WideShapes Go.ChangeAt Go.RowKit
open Go.ChangeMaps (open_string shut_string)
open Plain
set_option linter.unusedVariables false      -- a walk need not use every 'w<i>' (that an integer argument fits its kind)

/-! ### STEP 1: THE WALK: the Go text returns true. 'Grown w w'': the world has at most new blocks (Derived/RowKit3.lean). Part the cases AHEAD of 'go_enter' where a test parts the walk; take each callee by a contract of your own. -/
theorem walk (a0 : Int) (a1 : Int) (a2 : Int) (a3 : Int) (w0 : (Lit.int .i64 a0).wf = true) (w1 : (Lit.int .i64 a1).wf = true) (w2 : (Lit.int .i64 a2).wf = true) (w3 : (Lit.int .i64 a3).wf = true) (w : World) :
    Calls Try.prog 10 #[.int .i64 a0, .int .i64 a1, .int .i64 a2, .int .i64 a3] w fun e w' => e = .returned (.bool true) ∧ Grown w w' := by
  obtain ⟨b1, b2⟩ := bounds_i64 w0
  obtain ⟨b3, b4⟩ := bounds_i64 w1
  obtain ⟨b5, b6⟩ := bounds_i64 w2
  obtain ⟨b7, b8⟩ := bounds_i64 w3
  clear w0 w1 w2 w3
  by_cases i0 : a3 < 0
  · go_enter Try.func10, Try.ntmps10
    go_wp2
    go_ret
    exact ⟨rfl, Grown.refl _⟩
  by_cases i1 : 8796093022208 < a3
  · go_enter Try.func10, Try.ntmps10
    go_wp2
    go_ret
    exact ⟨rfl, Grown.refl _⟩
  have hb := cut_bd a0 a1 a2 b6
  have HS : Hid (Calls Try.prog 17 #[.int .i64 a0, .int .i64 a1, .int .i64 a2] w fun e w' => e = .returned (.tuple #[.int .i64 (cutLo a0 a1 a2 / 1048576), .int .i64 (cnt (cutHi a0 a1 a2))]) ∧ w' = w) := span_any a0 a1 a2 w b1 b2 b3 b4 b5 b6
  have HC : Hid (Calls Try.prog 14 #[.int .i64 a0, .int .i64 a1, .int .i64 a2] w fun e w' => e = .returned (.tuple #[.int .i64 (cutLo a0 a1 a2), .int .i64 (cutHi a0 a1 a2)]) ∧ w' = w) := cut_any a0 a1 a2 w b1 b2 b3 b4 b5 b6
  generalize cutLo a0 a1 a2 = lo at *
  generalize cutHi a0 a1 a2 = hi at *
  obtain ⟨l1, l2, l3⟩ := hb
  rcases l3 with ⟨rfl, rfl⟩ | ⟨l3, l4⟩
  · rw [show cnt 0 = 0 by unfold cnt; simp, show (0 : Int) / 1048576 = 0 by decide] at HS
    have d0 : decide (a3 < 0) = false := decide_eq_false i0
    go_enter Try.func10, Try.ntmps10
    go_wp2_with fail
    refine (HS.out).mono ?_
    rintro e w' ⟨rfl, rfl⟩
    go_wp2_with fail
    refine (HC.out).mono ?_
    rintro e w' ⟨rfl, rfl⟩
    go_wp2
    go_ret
    exact ⟨rfl, Grown.refl _⟩
  · have t1 := touch_hi a3 hi (by omega)
    have t2 := touch_lo a3 lo
    have t3 : lo / 1048576 < cnt hi := by unfold cnt; rw [if_neg (by omega)]; omega
    have t4 : 0 ≤ lo / 1048576 := by omega
    generalize lo / 1048576 = first at *
    generalize cnt hi = fin at *
    by_cases q0 : first ≤ a3
    · by_cases q1 : a3 < fin
      · have s1 := t1.1 q1
        have s2 := t2.1 q0
        clear t1 t2
        go_enter Try.func10, Try.ntmps10
        go_wp2_with fail
        refine (HS.out).mono ?_
        rintro e w' ⟨rfl, rfl⟩
        go_wp2_with fail
        refine (HC.out).mono ?_
        rintro e w' ⟨rfl, rfl⟩
        go_wp2
        go_ret
        exact ⟨rfl, Grown.refl _⟩
      · have s1 : hi ≤ a3 * 1048576 := Int.not_lt.1 fun h => q1 (t1.2 h)
        have s2 := t2.1 q0
        clear t1 t2
        have d1 : decide (a3 < fin) = false := decide_eq_false q1
        go_enter Try.func10, Try.ntmps10
        go_wp2_with fail
        refine (HS.out).mono ?_
        rintro e w' ⟨rfl, rfl⟩
        go_wp2_with fail
        refine (HC.out).mono ?_
        rintro e w' ⟨rfl, rfl⟩
        go_wp2
        go_ret
        exact ⟨rfl, Grown.refl _⟩
    · have q1 : a3 < fin := by omega
      have s1 := t1.1 q1
      have s2 : (a3 + 1) * 1048576 ≤ lo := Int.not_lt.1 fun h => q0 (t2.2 h)
      have d2 : decide (lo < (a3 + 1) * 1048576) = false := decide_eq_false (by omega)
      clear t1 t2
      go_enter Try.func10, Try.ntmps10
      go_wp2_with fail
      refine (HS.out).mono ?_
      rintro e w' ⟨rfl, rfl⟩
      go_wp2_with fail
      refine (HC.out).mono ?_
      rintro e w' ⟨rfl, rfl⟩
      go_wp2
      go_ret
      exact ⟨rfl, Grown.refl _⟩
end Go.Proofs.Qxb6600290a.fnSpanCoversExactlyTheChunksTouched
