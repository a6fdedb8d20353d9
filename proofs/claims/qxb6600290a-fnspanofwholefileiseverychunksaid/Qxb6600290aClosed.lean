/-
  THREE CLOSED FACTS ON THE DUMP's HEAD ('it may be entered', 'no finalizer is lifted', 'it is a cut'), STEP BY STEP. Asked of the kernel as they stand ('by kernel_rfl' at 'joinedFacts', as the given shell has it) they took 67 s and 9.9 GB; so: the head as a list of signs, its first word behind the main's, three facts on the functions' names, and the laws that put them together: 3 s.
-/
import Derived.Test.Qxb6600290aRows
import Derived.KernelRfl
import Derived.JoinedOf
namespace Go.Proofs.Qxb6600290a
set_option maxRecDepth 100000

/-- The head of the dump, sign by sign. -/
def signs : List Nat := [104, 97, 114, 110, 101, 115, 115, 32, 57, 51, 102, 99, 50, 57, 97, 51, 48, 99, 57, 100, 55, 57, 52, 57, 56, 57, 50, 53, 97, 50, 57, 57, 48, 101, 50, 97, 56, 56, 100, 48, 98, 51, 98, 97, 57, 49, 56, 98, 99, 56, 56, 102, 54, 49, 100, 53, 98, 56, 48, 54, 49, 57, 53, 56, 57, 54, 55, 48, 52, 98, 52, 98, 32, 99, 117, 116, 32, 97, 116, 32, 101, 120, 97, 109, 112, 108, 101, 46, 99, 111, 109, 47, 108, 97, 99, 117, 110, 97, 47, 108, 97, 99, 117, 110, 97, 47, 122, 122, 108, 97, 119, 115, 95, 112, 107, 103, 95, 99, 104, 117, 110, 107, 95, 98, 49, 46, 70, 110, 67, 111, 117, 110, 116, 77, 97, 116, 99, 104, 101, 115, 83, 104, 105, 102, 116, 65, 110, 100, 77, 97, 115, 107, 67, 101, 105, 108, 105, 110, 103, 32, 101, 120, 97, 109, 112, 108, 101, 46, 99, 111, 109, 47, 108, 97, 99, 117, 110, 97, 47, 108, 97, 99, 117, 110, 97, 47, 122, 122, 108, 97, 119, 115, 95, 112, 107, 103, 95, 99, 104, 117, 110, 107, 95, 98, 49, 46, 70, 110, 67, 111, 117, 110, 116, 76, 101, 97, 118, 101, 115, 76, 97, 115, 116, 67, 104, 117, 110, 107, 79, 102, 79, 110, 101, 84, 111, 83, 105, 122, 101, 66, 121, 116, 101, 115, 32, 101, 120, 97, 109, 112, 108, 101, 46, 99, 111, 109, 47, 108, 97, 99, 117, 110, 97, 47, 108, 97, 99, 117, 110, 97, 47, 122, 122, 108, 97, 119, 115, 95, 112, 107, 103, 95, 99, 104, 117, 110, 107, 95, 98, 49, 46, 70, 110, 67, 111, 117, 110, 116, 73, 115, 77, 111, 110, 111, 116, 111, 110, 101, 32, 101, 120, 97, 109, 112, 108, 101, 46, 99, 111, 109, 47, 108, 97, 99, 117, 110, 97, 47, 108, 97, 99, 117, 110, 97, 47, 122, 122, 108, 97, 119, 115, 95, 112, 107, 103, 95, 99, 104, 117, 110, 107, 95, 98, 49, 46, 70, 110, 67, 117, 116, 73, 115, 73, 110, 116, 101, 114, 115, 101, 99, 116, 105, 111, 110, 87, 105, 116, 104, 70, 105, 108, 101, 32, 101, 120, 97, 109, 112, 108, 101, 46, 99, 111, 109, 47, 108, 97, 99, 117, 110, 97, 47, 108, 97, 99, 117, 110, 97, 47, 122, 122, 108, 97, 119, 115, 95, 112, 107, 103, 95, 99, 104, 117, 110, 107, 95, 98, 49, 46, 70, 110, 67, 117, 116, 72, 111, 108, 100, 115, 69, 120, 97, 99, 116, 108, 121, 84, 104, 101, 82, 97, 110, 103, 101, 115, 66, 121, 116, 101, 115, 73, 110, 70, 105, 108, 101, 32, 101, 120, 97, 109, 112, 108, 101, 46, 99, 111, 109, 47, 108, 97, 99, 117, 110, 97, 47, 108, 97, 99, 117, 110, 97, 47, 122, 122, 108, 97, 119, 115, 95, 112, 107, 103, 95, 99, 104, 117, 110, 107, 95, 98, 49, 46, 70, 110, 67, 117, 116, 73, 115, 73, 100, 101, 109, 112, 111, 116, 101, 110, 116, 65, 110, 100, 87, 105, 116, 104, 105, 110, 70, 105, 108, 101, 32, 101, 120, 97, 109, 112, 108, 101, 46, 99, 111, 109, 47, 108, 97, 99, 117, 110, 97, 47, 108, 97, 99, 117, 110, 97, 47, 122, 122, 108, 97, 119, 115, 95, 112, 107, 103, 95, 99, 104, 117, 110, 107, 95, 98, 49, 46, 70, 110, 83, 112, 97, 110, 77, 97, 116, 99, 104, 101, 115, 67, 104, 117, 110, 107, 115, 79, 102, 73, 110, 116, 101, 114, 115, 101, 99, 116, 105, 111, 110, 32, 101, 120, 97, 109, 112, 108, 101, 46, 99, 111, 109, 47, 108, 97, 99, 117, 110, 97, 47, 108, 97, 99, 117, 110, 97, 47, 122, 122, 108, 97, 119, 115, 95, 112, 107, 103, 95, 99, 104, 117, 110, 107, 95, 98, 49, 46, 70, 110, 83, 112, 97, 110, 67, 111, 118, 101, 114, 115, 69, 120, 97, 99, 116, 108, 121, 84, 104, 101, 67, 104, 117, 110, 107, 115, 84, 111, 117, 99, 104, 101, 100, 32, 101, 120, 97, 109, 112, 108, 101, 46, 99, 111, 109, 47, 108, 97, 99, 117, 110, 97, 47, 108, 97, 99, 117, 110, 97, 47, 122, 122, 108, 97, 119, 115, 95, 112, 107, 103, 95, 99, 104, 117, 110, 107, 95, 98, 49, 46, 70, 110, 83, 112, 97, 110, 79, 102, 87, 104, 111, 108, 101, 70, 105, 108, 101, 73, 115, 69, 118, 101, 114, 121, 67, 104, 117, 110, 107]
theorem head_signs : Try.prog.initOrder = String.ofList (signs.map Char.ofNat) := by kernel_rfl
theorem head_words : (behindMainWord (wordsSigns (signs.map Char.ofNat))).head? = some ['c', 'u', 't'] := by kernel_rfl
theorem no_later : Try.prog.laysLater = false := by kernel_rfl
theorem no_reflect : Try.prog.bearsReflect = false := by kernel_rfl
theorem no_doors : Try.prog.doorRows.isEmpty = true := by kernel_rfl
theorem no_lifts (rest : List (List Char)) : stripLifts liftWords (['c', 'u', 't'] :: rest) = ([], ['c', 'u', 't'] :: rest) := by kernel_rfl
theorem cut_signs : "cut".toList = ['c', 'u', 't'] := by kernel_rfl
theorem gc_signs : "gc".toList = ['g', 'c'] := by kernel_rfl
theorem spec_signs : "spec".toList = ['s', 'p', 'e', 'c'] := by kernel_rfl
theorem carried_signs : "carried".toList = ['c', 'a', 'r', 'r', 'i', 'e', 'd'] := by kernel_rfl

theorem enters {P : Program} {rest : List (List Char)} (h : behindMainWord (wordsSigns P.initOrder.toList) = ['c', 'u', 't'] :: rest) (h1 : P.laysLater = false) (h2 : P.bearsReflect = false) (h3 : P.doorRows = []) : P.mayEnter = true := by
  unfold Program.mayEnter
  rw [h]
  simp only [no_lifts, h1, h2, Program.doorFits, h3]
  simp [cut_signs]

theorem lifts_no {P : Program} {rest : List (List Char)} (h : behindMainWord (wordsSigns P.initOrder.toList) = ['c', 'u', 't'] :: rest) : P.liftsFinal = false := by
  unfold Program.liftsFinal Program.headLifts
  rw [h]
  simp only [no_lifts]
  simp [cut_signs, carried_signs]

theorem make_cut {P : Program} {rest : List (List Char)} (h : behindMainWord (wordsSigns P.initOrder.toList) = ['c', 'u', 't'] :: rest) : P.make = some .cut := by
  unfold Program.make
  rw [h]
  simp [cut_signs, gc_signs, spec_signs]

theorem head_cut : ∃ rest, behindMainWord (wordsSigns Try.prog.initOrder.toList) = ['c', 'u', 't'] :: rest := by
  have hw := head_words
  cases hb : behindMainWord (wordsSigns (signs.map Char.ofNat)) with
  | nil => rw [hb] at hw; cases hw
  | cons c rest =>
    rw [hb] at hw
    simp only [List.head?_cons, Option.some.injEq] at hw
    subst hw
    exact ⟨rest, by rw [head_signs, String.toList_ofList]; exact hb⟩

theorem may : Try.pinned.checked.prog.mayEnter = true := by
  obtain ⟨rest, h⟩ := head_cut
  exact enters (P := Try.prog) h no_later no_reflect (List.isEmpty_iff.1 no_doors)
theorem lift : Try.pinned.checked.prog.liftsFinal = false := by
  obtain ⟨rest, h⟩ := head_cut
  exact lifts_no (P := Try.prog) h
theorem made : Try.pinned.checked.prog.make = some .cut := by
  obtain ⟨rest, h⟩ := head_cut
  exact make_cut (P := Try.prog) h

theorem and_mk {a b : Bool} (h : a = true) (k : b = true) : (a && b) = true := by rw [h, k]; rfl
end Go.Proofs.Qxb6600290a
