/-
  No cell of these rows narrows 'for every input' (looked for: loops, veiled, ifaces, maps, wideKeys, modest, calm, conditions, laid).
  DERIVED. THE GIVEN ROWS OF THIS SEAT. 9 by the template 'for every input the law returns true; each argument reads behind the call as it read before'; 0 by the template 'total and deterministic' (their statements: Qxb6600290aTotals.lean).
  GIVEN WITH THE SEED: the statements are not yours to turn. If you find one false, say at which input.
  Laid BY PROGRAM, IN A SANDBOX (cutbox-rows.mjs): the forced cells as the released guide's own fill.sh prints them over the translation e176b39545ed2e36… (all of the seat's roots in one cut). By AI agents, Wed Nov 11 2026. No macro, syntax, notation, axiom, sorry.
-/
import Derived.Test.Qxb6600290aChecked
import GoSem.Claim
import GoSem.ClaimJoined
import GoSem.ClaimMapViews
import Derived.JoinedTies
import Derived.KernelRfl
namespace Go.Proofs.Qxb6600290a
/- THE CELL 'sum', in the pinned program and in every row, IS THE sha256 OF THE DUMP (.gsa) THAT Qxb6600290aProg.lean LOADS. Nothing in Lean hashes anything: it is a label: what it is worth is what the hold of that sum in a sandbox is worth. -/
noncomputable def Try.pinned : Pinned := { name := "qxb6600290a", sum := "e176b39545ed2e36bc3c41c8e970481009400a12b1ff2bdacda203a631927261", checked := Try.checked }
namespace Rows
def none {H : Type} : Left H := { results := [], args := [] }

/-- 'zzlaws_pkg_chunk_b1.FnCountMatchesShiftAndMaskCeiling': WHATEVER THE INPUT: true; the input reads as it did. -/
def fnCountMatchesShiftAndMaskCeilingSpec : ChangeSpec := { name := "fnCountMatchesShiftAndMaskCeiling", fn := fun _ => fun
  | [d] => { results := [.lit (.bool true)], args := [d] }
  | _ => none }
def fnCountMatchesShiftAndMaskCeilingRow : OpenClaim := { program := "qxb6600290a", sum := "e176b39545ed2e36bc3c41c8e970481009400a12b1ff2bdacda203a631927261", func := "example.com/lacuna/lacuna/zzlaws_pkg_chunk_b1.FnCountMatchesShiftAndMaskCeiling", spec := "fnCountMatchesShiftAndMaskCeiling", apart := false }
def FnCountMatchesShiftAndMaskCeilingSaid : Prop := fnCountMatchesShiftAndMaskCeilingRow.holds Try.pinned (OpenSpec.ofChange fnCountMatchesShiftAndMaskCeilingSpec)

/-- ITS FALSE NEIGHBOUR: 'it returns false'. Refute it at one input. -/
def fnCountMatchesShiftAndMaskCeilingWrong : ChangeSpec := { name := "fnCountMatchesShiftAndMaskCeiling", fn := fun _ => fun
  | [d] => { results := [.lit (.bool false)], args := [d] }
  | _ => none }
def FnCountMatchesShiftAndMaskCeilingWrongFalsely : Prop := fnCountMatchesShiftAndMaskCeilingRow.holds Try.pinned (OpenSpec.ofChange fnCountMatchesShiftAndMaskCeilingWrong)

/-- 'zzlaws_pkg_chunk_b1.FnCountLeavesLastChunkOfOneToSizeBytes': WHATEVER THE INPUT: true; the input reads as it did. -/
def fnCountLeavesLastChunkOfOneToSizeBytesSpec : ChangeSpec := { name := "fnCountLeavesLastChunkOfOneToSizeBytes", fn := fun _ => fun
  | [d] => { results := [.lit (.bool true)], args := [d] }
  | _ => none }
def fnCountLeavesLastChunkOfOneToSizeBytesRow : OpenClaim := { program := "qxb6600290a", sum := "e176b39545ed2e36bc3c41c8e970481009400a12b1ff2bdacda203a631927261", func := "example.com/lacuna/lacuna/zzlaws_pkg_chunk_b1.FnCountLeavesLastChunkOfOneToSizeBytes", spec := "fnCountLeavesLastChunkOfOneToSizeBytes", apart := false }
def FnCountLeavesLastChunkOfOneToSizeBytesSaid : Prop := fnCountLeavesLastChunkOfOneToSizeBytesRow.holds Try.pinned (OpenSpec.ofChange fnCountLeavesLastChunkOfOneToSizeBytesSpec)

/-- ITS FALSE NEIGHBOUR: 'it returns false'. Refute it at one input. -/
def fnCountLeavesLastChunkOfOneToSizeBytesWrong : ChangeSpec := { name := "fnCountLeavesLastChunkOfOneToSizeBytes", fn := fun _ => fun
  | [d] => { results := [.lit (.bool false)], args := [d] }
  | _ => none }
def FnCountLeavesLastChunkOfOneToSizeBytesWrongFalsely : Prop := fnCountLeavesLastChunkOfOneToSizeBytesRow.holds Try.pinned (OpenSpec.ofChange fnCountLeavesLastChunkOfOneToSizeBytesWrong)

/-- 'zzlaws_pkg_chunk_b1.FnCountIsMonotone': WHATEVER THE INPUT: true; the input reads as it did. -/
def fnCountIsMonotoneSpec : ChangeSpec := { name := "fnCountIsMonotone", fn := fun _ => fun
  | [d1, d2] => { results := [.lit (.bool true)], args := [d1, d2] }
  | _ => none }
def fnCountIsMonotoneRow : OpenClaim := { program := "qxb6600290a", sum := "e176b39545ed2e36bc3c41c8e970481009400a12b1ff2bdacda203a631927261", func := "example.com/lacuna/lacuna/zzlaws_pkg_chunk_b1.FnCountIsMonotone", spec := "fnCountIsMonotone", apart := false }
def FnCountIsMonotoneSaid : Prop := fnCountIsMonotoneRow.holds Try.pinned (OpenSpec.ofChange fnCountIsMonotoneSpec)

/-- ITS FALSE NEIGHBOUR: 'it returns false'. Refute it at one input. -/
def fnCountIsMonotoneWrong : ChangeSpec := { name := "fnCountIsMonotone", fn := fun _ => fun
  | [d1, d2] => { results := [.lit (.bool false)], args := [d1, d2] }
  | _ => none }
def FnCountIsMonotoneWrongFalsely : Prop := fnCountIsMonotoneRow.holds Try.pinned (OpenSpec.ofChange fnCountIsMonotoneWrong)

/-- 'zzlaws_pkg_chunk_b1.FnCutIsIntersectionWithFile': WHATEVER THE INPUT: true; the input reads as it did. -/
def fnCutIsIntersectionWithFileSpec : ChangeSpec := { name := "fnCutIsIntersectionWithFile", fn := fun _ => fun
  | [d1, d2, d3] => { results := [.lit (.bool true)], args := [d1, d2, d3] }
  | _ => none }
def fnCutIsIntersectionWithFileRow : OpenClaim := { program := "qxb6600290a", sum := "e176b39545ed2e36bc3c41c8e970481009400a12b1ff2bdacda203a631927261", func := "example.com/lacuna/lacuna/zzlaws_pkg_chunk_b1.FnCutIsIntersectionWithFile", spec := "fnCutIsIntersectionWithFile", apart := false }
def FnCutIsIntersectionWithFileSaid : Prop := fnCutIsIntersectionWithFileRow.holds Try.pinned (OpenSpec.ofChange fnCutIsIntersectionWithFileSpec)

/-- ITS FALSE NEIGHBOUR: 'it returns false'. Refute it at one input. -/
def fnCutIsIntersectionWithFileWrong : ChangeSpec := { name := "fnCutIsIntersectionWithFile", fn := fun _ => fun
  | [d1, d2, d3] => { results := [.lit (.bool false)], args := [d1, d2, d3] }
  | _ => none }
def FnCutIsIntersectionWithFileWrongFalsely : Prop := fnCutIsIntersectionWithFileRow.holds Try.pinned (OpenSpec.ofChange fnCutIsIntersectionWithFileWrong)

/-- 'zzlaws_pkg_chunk_b1.FnCutHoldsExactlyTheRangesBytesInFile': WHATEVER THE INPUT: true; the input reads as it did. -/
def fnCutHoldsExactlyTheRangesBytesInFileSpec : ChangeSpec := { name := "fnCutHoldsExactlyTheRangesBytesInFile", fn := fun _ => fun
  | [d1, d2, d3, d4] => { results := [.lit (.bool true)], args := [d1, d2, d3, d4] }
  | _ => none }
def fnCutHoldsExactlyTheRangesBytesInFileRow : OpenClaim := { program := "qxb6600290a", sum := "e176b39545ed2e36bc3c41c8e970481009400a12b1ff2bdacda203a631927261", func := "example.com/lacuna/lacuna/zzlaws_pkg_chunk_b1.FnCutHoldsExactlyTheRangesBytesInFile", spec := "fnCutHoldsExactlyTheRangesBytesInFile", apart := false }
def FnCutHoldsExactlyTheRangesBytesInFileSaid : Prop := fnCutHoldsExactlyTheRangesBytesInFileRow.holds Try.pinned (OpenSpec.ofChange fnCutHoldsExactlyTheRangesBytesInFileSpec)

/-- ITS FALSE NEIGHBOUR: 'it returns false'. Refute it at one input. -/
def fnCutHoldsExactlyTheRangesBytesInFileWrong : ChangeSpec := { name := "fnCutHoldsExactlyTheRangesBytesInFile", fn := fun _ => fun
  | [d1, d2, d3, d4] => { results := [.lit (.bool false)], args := [d1, d2, d3, d4] }
  | _ => none }
def FnCutHoldsExactlyTheRangesBytesInFileWrongFalsely : Prop := fnCutHoldsExactlyTheRangesBytesInFileRow.holds Try.pinned (OpenSpec.ofChange fnCutHoldsExactlyTheRangesBytesInFileWrong)

/-- 'zzlaws_pkg_chunk_b1.FnCutIsIdempotentAndWithinFile': WHATEVER THE INPUT: true; the input reads as it did. -/
def fnCutIsIdempotentAndWithinFileSpec : ChangeSpec := { name := "fnCutIsIdempotentAndWithinFile", fn := fun _ => fun
  | [d1, d2, d3] => { results := [.lit (.bool true)], args := [d1, d2, d3] }
  | _ => none }
def fnCutIsIdempotentAndWithinFileRow : OpenClaim := { program := "qxb6600290a", sum := "e176b39545ed2e36bc3c41c8e970481009400a12b1ff2bdacda203a631927261", func := "example.com/lacuna/lacuna/zzlaws_pkg_chunk_b1.FnCutIsIdempotentAndWithinFile", spec := "fnCutIsIdempotentAndWithinFile", apart := false }
def FnCutIsIdempotentAndWithinFileSaid : Prop := fnCutIsIdempotentAndWithinFileRow.holds Try.pinned (OpenSpec.ofChange fnCutIsIdempotentAndWithinFileSpec)

/-- ITS FALSE NEIGHBOUR: 'it returns false'. Refute it at one input. -/
def fnCutIsIdempotentAndWithinFileWrong : ChangeSpec := { name := "fnCutIsIdempotentAndWithinFile", fn := fun _ => fun
  | [d1, d2, d3] => { results := [.lit (.bool false)], args := [d1, d2, d3] }
  | _ => none }
def FnCutIsIdempotentAndWithinFileWrongFalsely : Prop := fnCutIsIdempotentAndWithinFileRow.holds Try.pinned (OpenSpec.ofChange fnCutIsIdempotentAndWithinFileWrong)

/-- 'zzlaws_pkg_chunk_b1.FnSpanMatchesChunksOfIntersection': WHATEVER THE INPUT: true; the input reads as it did. -/
def fnSpanMatchesChunksOfIntersectionSpec : ChangeSpec := { name := "fnSpanMatchesChunksOfIntersection", fn := fun _ => fun
  | [d1, d2, d3] => { results := [.lit (.bool true)], args := [d1, d2, d3] }
  | _ => none }
def fnSpanMatchesChunksOfIntersectionRow : OpenClaim := { program := "qxb6600290a", sum := "e176b39545ed2e36bc3c41c8e970481009400a12b1ff2bdacda203a631927261", func := "example.com/lacuna/lacuna/zzlaws_pkg_chunk_b1.FnSpanMatchesChunksOfIntersection", spec := "fnSpanMatchesChunksOfIntersection", apart := false }
def FnSpanMatchesChunksOfIntersectionSaid : Prop := fnSpanMatchesChunksOfIntersectionRow.holds Try.pinned (OpenSpec.ofChange fnSpanMatchesChunksOfIntersectionSpec)

/-- ITS FALSE NEIGHBOUR: 'it returns false'. Refute it at one input. -/
def fnSpanMatchesChunksOfIntersectionWrong : ChangeSpec := { name := "fnSpanMatchesChunksOfIntersection", fn := fun _ => fun
  | [d1, d2, d3] => { results := [.lit (.bool false)], args := [d1, d2, d3] }
  | _ => none }
def FnSpanMatchesChunksOfIntersectionWrongFalsely : Prop := fnSpanMatchesChunksOfIntersectionRow.holds Try.pinned (OpenSpec.ofChange fnSpanMatchesChunksOfIntersectionWrong)

/-- 'zzlaws_pkg_chunk_b1.FnSpanCoversExactlyTheChunksTouched': WHATEVER THE INPUT: true; the input reads as it did. -/
def fnSpanCoversExactlyTheChunksTouchedSpec : ChangeSpec := { name := "fnSpanCoversExactlyTheChunksTouched", fn := fun _ => fun
  | [d1, d2, d3, d4] => { results := [.lit (.bool true)], args := [d1, d2, d3, d4] }
  | _ => none }
def fnSpanCoversExactlyTheChunksTouchedRow : OpenClaim := { program := "qxb6600290a", sum := "e176b39545ed2e36bc3c41c8e970481009400a12b1ff2bdacda203a631927261", func := "example.com/lacuna/lacuna/zzlaws_pkg_chunk_b1.FnSpanCoversExactlyTheChunksTouched", spec := "fnSpanCoversExactlyTheChunksTouched", apart := false }
def FnSpanCoversExactlyTheChunksTouchedSaid : Prop := fnSpanCoversExactlyTheChunksTouchedRow.holds Try.pinned (OpenSpec.ofChange fnSpanCoversExactlyTheChunksTouchedSpec)

/-- ITS FALSE NEIGHBOUR: 'it returns false'. Refute it at one input. -/
def fnSpanCoversExactlyTheChunksTouchedWrong : ChangeSpec := { name := "fnSpanCoversExactlyTheChunksTouched", fn := fun _ => fun
  | [d1, d2, d3, d4] => { results := [.lit (.bool false)], args := [d1, d2, d3, d4] }
  | _ => none }
def FnSpanCoversExactlyTheChunksTouchedWrongFalsely : Prop := fnSpanCoversExactlyTheChunksTouchedRow.holds Try.pinned (OpenSpec.ofChange fnSpanCoversExactlyTheChunksTouchedWrong)

/-- 'zzlaws_pkg_chunk_b1.FnSpanOfWholeFileIsEveryChunk': WHATEVER THE INPUT: true; the input reads as it did. -/
def fnSpanOfWholeFileIsEveryChunkSpec : ChangeSpec := { name := "fnSpanOfWholeFileIsEveryChunk", fn := fun _ => fun
  | [d1, d2] => { results := [.lit (.bool true)], args := [d1, d2] }
  | _ => none }
def fnSpanOfWholeFileIsEveryChunkRow : OpenClaim := { program := "qxb6600290a", sum := "e176b39545ed2e36bc3c41c8e970481009400a12b1ff2bdacda203a631927261", func := "example.com/lacuna/lacuna/zzlaws_pkg_chunk_b1.FnSpanOfWholeFileIsEveryChunk", spec := "fnSpanOfWholeFileIsEveryChunk", apart := false }
def FnSpanOfWholeFileIsEveryChunkSaid : Prop := fnSpanOfWholeFileIsEveryChunkRow.holds Try.pinned (OpenSpec.ofChange fnSpanOfWholeFileIsEveryChunkSpec)

/-- ITS FALSE NEIGHBOUR: 'it returns false'. Refute it at one input. -/
def fnSpanOfWholeFileIsEveryChunkWrong : ChangeSpec := { name := "fnSpanOfWholeFileIsEveryChunk", fn := fun _ => fun
  | [d1, d2] => { results := [.lit (.bool false)], args := [d1, d2] }
  | _ => none }
def FnSpanOfWholeFileIsEveryChunkWrongFalsely : Prop := fnSpanOfWholeFileIsEveryChunkRow.holds Try.pinned (OpenSpec.ofChange fnSpanOfWholeFileIsEveryChunkWrong)

end Rows
end Go.Proofs.Qxb6600290a
