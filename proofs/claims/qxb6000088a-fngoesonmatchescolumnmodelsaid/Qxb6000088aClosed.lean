/-
  THREE CLOSED FACTS ON THE DUMP's HEAD ('it may be entered', 'no finalizer is lifted', 'it is a cut'), STEP BY STEP. Asked of the kernel as they stand ('by kernel_rfl' at 'joinedFacts', as the given shell has it) they took 67 s and 9.9 GB; so: the head as a list of signs, its first word behind the main's, three facts on the functions' names, and the laws that put them together: 3 s.
-/
import Derived.Test.Qxb6000088aRows
import Derived.KernelRfl
import Derived.JoinedOf
namespace Go.Proofs.Qxb6000088a
set_option maxRecDepth 100000

/-- The head of the dump, sign by sign. -/
def signs : List Nat := [104, 97, 114, 110, 101, 115, 115, 32, 55, 101, 54, 101, 48, 100, 55, 97, 53, 55, 55, 102, 57, 99, 97, 55, 50, 54, 53, 100, 55, 50, 102, 97, 49, 100, 52, 99, 57, 51, 97, 99, 53, 102, 54, 99, 54, 49, 102, 99, 97, 54, 101, 56, 49, 49, 51, 52, 53, 48, 97, 53, 56, 97, 102, 100, 52, 52, 49, 55, 98, 56, 55, 97, 32, 99, 117, 116, 32, 97, 116, 32, 101, 120, 97, 109, 112, 108, 101, 46, 99, 111, 109, 47, 112, 97, 114, 108, 111, 114, 107, 101, 101, 112, 47, 112, 97, 114, 108, 111, 114, 107, 101, 101, 112, 47, 122, 122, 108, 97, 119, 115, 95, 105, 110, 116, 101, 114, 110, 97, 108, 95, 109, 97, 114, 107, 100, 111, 119, 110, 95, 98, 49, 46, 70, 110, 87, 104, 111, 108, 101, 84, 97, 103, 77, 97, 116, 99, 104, 101, 115, 65, 117, 116, 111, 109, 97, 116, 111, 110, 32, 101, 120, 97, 109, 112, 108, 101, 46, 99, 111, 109, 47, 112, 97, 114, 108, 111, 114, 107, 101, 101, 112, 47, 112, 97, 114, 108, 111, 114, 107, 101, 101, 112, 47, 122, 122, 108, 97, 119, 115, 95, 105, 110, 116, 101, 114, 110, 97, 108, 95, 109, 97, 114, 107, 100, 111, 119, 110, 95, 98, 49, 46, 70, 110, 87, 104, 111, 108, 101, 84, 97, 103, 75, 101, 101, 112, 115, 84, 111, 73, 116, 115, 79, 119, 110, 66, 121, 116, 101, 115, 32, 101, 120, 97, 109, 112, 108, 101, 46, 99, 111, 109, 47, 112, 97, 114, 108, 111, 114, 107, 101, 101, 112, 47, 112, 97, 114, 108, 111, 114, 107, 101, 101, 112, 47, 122, 122, 108, 97, 119, 115, 95, 105, 110, 116, 101, 114, 110, 97, 108, 95, 109, 97, 114, 107, 100, 111, 119, 110, 95, 98, 49, 46, 70, 110, 84, 104, 101, 109, 97, 116, 105, 99, 66, 114, 101, 97, 107, 83, 112, 108, 105, 116, 76, 105, 110, 101, 65, 103, 114, 101, 101, 115, 32, 101, 120, 97, 109, 112, 108, 101, 46, 99, 111, 109, 47, 112, 97, 114, 108, 111, 114, 107, 101, 101, 112, 47, 112, 97, 114, 108, 111, 114, 107, 101, 101, 112, 47, 122, 122, 108, 97, 119, 115, 95, 105, 110, 116, 101, 114, 110, 97, 108, 95, 109, 97, 114, 107, 100, 111, 119, 110, 95, 98, 49, 46, 70, 110, 71, 111, 101, 115, 79, 110, 77, 97, 116, 99, 104, 101, 115, 67, 111, 108, 117, 109, 110, 77, 111, 100, 101, 108, 32, 101, 120, 97, 109, 112, 108, 101, 46, 99, 111, 109, 47, 112, 97, 114, 108, 111, 114, 107, 101, 101, 112, 47, 112, 97, 114, 108, 111, 114, 107, 101, 101, 112, 47, 122, 122, 108, 97, 119, 115, 95, 105, 110, 116, 101, 114, 110, 97, 108, 95, 109, 97, 114, 107, 100, 111, 119, 110, 95, 98, 49, 46, 70, 110, 71, 111, 101, 115, 79, 110, 75, 101, 101, 112, 115, 67, 117, 114, 115, 111, 114, 87, 101, 108, 108, 70, 111, 114, 109, 101, 100]
theorem head_signs : Try.prog.initOrder = String.ofList (signs.map Char.ofNat) := by kernel_rfl
theorem head_words : (behindMainWord (wordsSigns (signs.map Char.ofNat))).head? = some ['c', 'u', 't'] := by kernel_rfl
theorem no_later : Try.prog.laysLater = false := by kernel_rfl
theorem no_reflect : Try.prog.bearsReflect = false := by kernel_rfl
theorem no_doors : Try.prog.doorRows.isEmpty = true := by kernel_rfl
theorem no_lifts (rest : List (List Char)) : stripLifts liftWords (['c', 'u', 't'] :: rest) = ([], ['c', 'u', 't'] :: rest) := by kernel_rfl
theorem cut_signs : "cut".toList = ['c', 'u', 't'] := by kernel_rfl
theorem gc_signs : "gc".toList = ['g', 'c'] := by kernel_rfl
theorem spec_signs : "spec".toList = ['s', 'p', 'e', 'c'] := by kernel_rfl
theorem carried_signs : "carried".toList = ['c', 'a', 'r', 'r', 'i', 'e', 'd'] := by kernel_rfl

theorem enters {P : Program} {rest : List (List Char)} (h : behindMainWord (wordsSigns P.initOrder.toList) = ['c', 'u', 't'] :: rest) (h1 : P.laysLater = false) (h2 : P.bearsReflect = false) (h3 : P.doorRows = []) : P.mayEnter = true := by
  unfold Program.mayEnter
  rw [h]
  simp only [no_lifts, h1, h2, Program.doorFits, h3]
  simp [cut_signs]

theorem lifts_no {P : Program} {rest : List (List Char)} (h : behindMainWord (wordsSigns P.initOrder.toList) = ['c', 'u', 't'] :: rest) : P.liftsFinal = false := by
  unfold Program.liftsFinal Program.headLifts
  rw [h]
  simp only [no_lifts]
  simp [cut_signs, carried_signs]

theorem make_cut {P : Program} {rest : List (List Char)} (h : behindMainWord (wordsSigns P.initOrder.toList) = ['c', 'u', 't'] :: rest) : P.make = some .cut := by
  unfold Program.make
  rw [h]
  simp [cut_signs, gc_signs, spec_signs]

theorem head_cut : ∃ rest, behindMainWord (wordsSigns Try.prog.initOrder.toList) = ['c', 'u', 't'] :: rest := by
  have hw := head_words
  cases hb : behindMainWord (wordsSigns (signs.map Char.ofNat)) with
  | nil => rw [hb] at hw; cases hw
  | cons c rest =>
    rw [hb] at hw
    simp only [List.head?_cons, Option.some.injEq] at hw
    subst hw
    exact ⟨rest, by rw [head_signs, String.toList_ofList]; exact hb⟩

theorem may : Try.pinned.checked.prog.mayEnter = true := by
  obtain ⟨rest, h⟩ := head_cut
  exact enters (P := Try.prog) h no_later no_reflect (List.isEmpty_iff.1 no_doors)
theorem lift : Try.pinned.checked.prog.liftsFinal = false := by
  obtain ⟨rest, h⟩ := head_cut
  exact lifts_no (P := Try.prog) h
theorem headMade : Try.pinned.checked.prog.make = some .cut := by
  obtain ⟨rest, h⟩ := head_cut
  exact make_cut (P := Try.prog) h

theorem and_mk {a b : Bool} (h : a = true) (k : b = true) : (a && b) = true := by rw [h, k]; rfl
end Go.Proofs.Qxb6000088a
