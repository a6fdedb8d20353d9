/-
  THE WALK of 'Rows.FnGoesOnMatchesColumnModelSaid'.
-/
import Derived.Test.Qxb6000088aRows
import Derived.Test.Qxb6000088aAll
import Derived.WalkKit
import Derived.ProofKit
import Derived.OpenShut
import Derived.ShutString
import Derived.ChangeOld
import Derived.Below
namespace Go.Proofs.Qxb6000088a.fnGoesOnMatchesColumnModel
open Go.ChangeShapes Go.WideShapes Go.ChangeAt Go.RowKit
open Go.ChangeMaps (open_string shut_string)
open Plain
set_option linter.unusedVariables false


/-- WHAT THE WALK IS TOLD OF A SLICE OF INTEGERS THAT CAME IN: it is nil; or it leads to a row of 'cap' cells, the numbers 'zs' (the first 'len' are its elements, the rest its spare room), each fitting its kind. -/
def IsRow (k : IntKind) (w : World) (a : Option Addr) (len cap : Nat) (zs : List Int) : Prop :=
  (a = none ∧ len = 0 ∧ cap = 0 ∧ zs = []) ∨
  ∃ x, a = some x ∧ len ≤ cap ∧ cap ≤ maxLen ∧ zs.length = cap ∧ (∀ i, i < zs.length → w.cell? (x.add i) = some (.int k (zs.getD i 0))) ∧ ∀ n ∈ zs, (Lit.int k n).wf = true

/-! ### STEP 1: THE WALK: the Go text returns true, AND WRITES NOTHING THAT WAS THERE: 'Below w.heap.size w w'' (Derived/Below.lean: '.refl', '.alloc', '.drew', '.setCell' at a new block, '.trans'). Open each 'IsRow' by 'rcases' AHEAD of 'go_enter'; part every test ahead of the walk. -/
set_option maxRecDepth 100000 in
set_option maxHeartbeats 1000000 in
theorem walk (a0 : Option Addr) (len0 cap0 : Nat) (z0 : List Int) (a1 : Bool) (a2 : Int) (a3 : Int) (a4 : Int) (a5 : Int) (a6 : Bool) (a7 : Int) (w : World) (w0 : IsRow .u8 w a0 len0 cap0 z0) (w2 : (Lit.int .i64 a2).wf = true) (w3 : (Lit.int .i64 a3).wf = true) (w4 : (Lit.int .u8 a4).wf = true) (w5 : (Lit.int .i64 a5).wf = true) (w7 : (Lit.int .i64 a7).wf = true) :
    Calls Try.prog 6 #[.slice a0 len0 cap0, .bool a1, .int .i64 a2, .int .i64 a3, .int .u8 a4, .int .i64 a5, .bool a6, .int .i64 a7] w fun e w' => e = .returned (.bool true) ∧ Below w.heap.size w w' := by
  obtain ⟨b1, b2⟩ := bounds_i64 w2
  obtain ⟨b3, b4⟩ := bounds_i64 w3
  obtain ⟨b5, b6⟩ := bounds_i64 w5
  clear w2 w3 w4 w5 w7
  have W0 : Hid (IsRow .u8 w a0 len0 cap0 z0) := w0
  clear w0
  by_cases c0 : 1048576 < len0
  · go_enter Try.func6, Try.ntmps6
    go_wp2_with fail
    refine (bytes_no a0 len0 cap0 _ _ _ _ _ _ _ _ c0).mono ?_
    rintro e w1 ⟨rfl, rfl⟩
    go_wp2
    go_ret
    exact ⟨rfl, Below.refl _ _⟩
  by_cases c1 : a2 < 0
  · go_enter Try.func6, Try.ntmps6
    go_wp2_with fail
    refine (bytes_yes a0 len0 cap0 _ _ _ _ _ _ _ _ (by omega)).mono ?_
    rintro e w1 ⟨rfl, rfl⟩
    go_wp2
    go_ret
    exact ⟨rfl, Below.refl _ _⟩
  by_cases c2 : (len0 : Int) < a2
  · go_enter Try.func6, Try.ntmps6
    go_wp2_with fail
    refine (bytes_yes a0 len0 cap0 _ _ _ _ _ _ _ _ (by omega)).mono ?_
    rintro e w1 ⟨rfl, rfl⟩
    go_wp2
    go_ret
    exact ⟨rfl, Below.refl _ _⟩
  by_cases c3 : a3 < 0
  · go_enter Try.func6, Try.ntmps6
    go_wp2_with fail
    refine (bytes_yes a0 len0 cap0 _ _ _ _ _ _ _ _ (by omega)).mono ?_
    rintro e w1 ⟨rfl, rfl⟩
    go_wp2
    go_ret
    exact ⟨rfl, Below.refl _ _⟩
  by_cases c4 : 268435456 < a3
  · go_enter Try.func6, Try.ntmps6
    go_wp2_with fail
    refine (bytes_yes a0 len0 cap0 _ _ _ _ _ _ _ _ (by omega)).mono ?_
    rintro e w1 ⟨rfl, rfl⟩
    go_wp2
    go_ret
    exact ⟨rfl, Below.refl _ _⟩
  by_cases c5 : a5 < 0
  · go_enter Try.func6, Try.ntmps6
    go_wp2_with fail
    refine (bytes_yes a0 len0 cap0 _ _ _ _ _ _ _ _ (by omega)).mono ?_
    rintro e w1 ⟨rfl, rfl⟩
    go_wp2
    go_ret
    exact ⟨rfl, Below.refl _ _⟩
  by_cases c6 : 268435456 < a5
  · go_enter Try.func6, Try.ntmps6
    go_wp2_with fail
    refine (bytes_yes a0 len0 cap0 _ _ _ _ _ _ _ _ (by omega)).mono ?_
    rintro e w1 ⟨rfl, rfl⟩
    go_wp2
    go_ret
    exact ⟨rfl, Below.refl _ _⟩
  obtain ⟨p, rfl⟩ := Int.eq_ofNat_of_zero_le (show 0 ≤ a2 by omega)
  obtain ⟨zs, hz, hb, h⟩ : ∃ zs : List Int, zs.length = len0 ∧ (∀ i, 0 ≤ byt zs i ∧ byt zs i ≤ 255) ∧ ((a0 = none ∧ zs.length = 0 ∧ cap0 = 0) ∨ ∃ x, a0 = some x ∧ ∀ i, i < zs.length → w.cell? (x.add i) = some (.int .u8 (byt zs i))) := by
    rcases W0.out with ⟨rfl, rfl, rfl, rfl⟩ | ⟨x, rfl, h1, h2, h3, h4, h5⟩
    · exact ⟨[], rfl, fun i => by simp [byt], .inl ⟨rfl, rfl, rfl⟩⟩
    · have hl : (z0.take len0).length = len0 := by rw [List.length_take]; omega
      refine ⟨z0.take len0, hl, fun i => ?_, .inr ⟨x, rfl, fun i hi => ?_⟩⟩
      · unfold byt
        by_cases e : i < (z0.take len0).length
        · rw [List.getElem?_eq_getElem e]
          exact bounds_u8 (h5 _ (List.mem_of_mem_take (List.getElem_mem e)))
        · rw [List.getElem?_eq_none (by omega)]
          simp
      · rw [h4 i (by omega)]
        unfold byt
        rw [List.getElem?_take, if_pos (by omega), List.getD_eq_getElem?_getD]
  subst hz
  obtain ⟨K, hK⟩ := fst_ex zs p (by omega)
  by_cases hfn : p + K < zs.length
  · exact all_In w a0 cap0 zs a1 p a3 a4 a5 a6 a7 K (by omega) hb h hK (by omega) (by omega) (by omega) (by omega) hfn
  · have hfe : p + K = zs.length := by have := hK.le; omega
    cases a1
    · exact all_F w a0 cap0 zs p a3 a4 a5 a6 a7 K (by omega) hb h hK (by omega) (by omega) (by omega) (by omega) hfe
    · exact all_T w a0 cap0 zs p a3 a4 a5 a6 a7 K (by omega) hb h hK (by omega) (by omega) (by omega) (by omega) hfe
end Go.Proofs.Qxb6000088a.fnGoesOnMatchesColumnModel
