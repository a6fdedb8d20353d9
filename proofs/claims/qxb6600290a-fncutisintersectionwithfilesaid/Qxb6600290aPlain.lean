/-
  THE PLAIN FUNCTIONS AND LAWS of seat b6600290a: no Go in sight: integers alone.
  cnt: chunk.Count. ceil: zzCeilChunks. cutLo, cutHi: chunk.Cut (and zzModelCut).
-/
import Derived.Laws.BitsLemmas
namespace Go.Proofs.Qxb6600290a.Plain

/-- chunk.Count. -/
def cnt (s : Int) : Int := if s ≤ 0 then 0 else (s - 1) / 1048576 + 1
/-- zzCeilChunks (x not below 0). -/
def ceil (x : Int) : Int := if x % 1048576 = 0 then x / 1048576 else x / 1048576 + 1
/-- chunk.Cut's start. -/
def cutLo (o l s : Int) : Int := if o < 0 then 0 else (if l ≤ 0 ∨ s ≤ o then 0 else o)
/-- chunk.Cut's stop. -/
def cutHi (o l s : Int) : Int :=
  if o < 0 then (if l ≤ 0 ∨ l + o ≤ 0 ∨ s ≤ 0 then 0 else if l + o < s then l + o else s)
  else (if l ≤ 0 ∨ s ≤ o then 0 else if l < s - o then o + l else s)

/-- zzInRange. -/
def inR (p o l : Int) : Bool := decide (0 < l ∧ o ≤ p ∧ p < o + l)

theorem cnt_ceil (s : Int) (h : 0 < s) : cnt s = ceil s := by
  unfold cnt ceil
  rw [if_neg (by omega)]
  split <;> omega

theorem cnt_bd (s : Int) (h : s ≤ 9223372036854775807) : 0 ≤ cnt s ∧ cnt s ≤ 8796093022208 := by
  unfold cnt
  split <;> omega

/-- What the cut is: empty as 0, 0; or a range within the file. -/
theorem cut_bd (o l s : Int) (hs : s ≤ 9223372036854775807) :
    0 ≤ cutLo o l s ∧ cutHi o l s ≤ 9223372036854775807 ∧ ((cutLo o l s = 0 ∧ cutHi o l s = 0) ∨ (cutLo o l s < cutHi o l s ∧ cutHi o l s ≤ s)) := by
  unfold cutLo cutHi
  split <;> split <;> (try split) <;> omega

/-- The cut's bytes are the file's bytes in the range. -/
theorem cut_mem (o l s p : Int) : (cutLo o l s ≤ p ∧ p < cutHi o l s) ↔ (0 ≤ p ∧ p < s ∧ 0 < l ∧ o ≤ p ∧ p < o + l) := by
  unfold cutLo cutHi
  split <;> split <;> (try split) <;> omega

theorem mask (x : Int) (h0 : 0 ≤ x) (h1 : x ≤ 9223372036854775807) : bits .and .i64 x 1048575 = x % 1048576 := by
  have := bits_mask .i64 63 (by decide) (fun n a b => by rw [IntKind.wrap_i64]; omega) 20 (by decide) x h0 (by omega)
  simpa using this

theorem inR_wrap (p o l : Int) (hp : -9223372036854775808 ≤ p) (hp' : p ≤ 9223372036854775807) (ho : -9223372036854775808 ≤ o) (ho' : o ≤ 9223372036854775807) (hl : -9223372036854775808 ≤ l) (hl' : l ≤ 9223372036854775807) (h1 : 0 < l) (h2 : o ≤ p) :
    decide (IntKind.u64.wrap (IntKind.u64.wrap p - IntKind.u64.wrap o) < l) = inR p o l := by
  have e : ∀ n : Int, IntKind.u64.wrap n = n % 18446744073709551616 := fun n => by simp [IntKind.wrap, IntKind.bits, IntKind.signed]
  unfold inR
  rw [e, e, e, decide_eq_decide]
  omega

/-- A range from 0 of at least s bytes: the cut is the whole file (or nothing, where the file is empty). -/
theorem whole (l s : Int) (h : s ≤ l) : cutLo 0 l s / 1048576 = 0 ∧ cnt (cutHi 0 l s) = cnt s := by
  unfold cutLo cutHi cnt
  refine ⟨?_, ?_⟩
  · split <;> (try split) <;> omega
  · split <;> (try split) <;> split <;> (try split) <;> omega

/-- Chunk i begins ahead of hi exactly when its number lies below the number of chunks of hi bytes. -/
theorem touch_hi (i hi : Int) (h : 0 < hi) : i < cnt hi ↔ i * 1048576 < hi := by
  unfold cnt
  rw [if_neg (by omega)]
  omega
/-- Chunk i ends behind lo exactly when lo's chunk is at most i. -/
theorem touch_lo (i lo : Int) : lo / 1048576 ≤ i ↔ lo < (i + 1) * 1048576 := by omega
end Go.Proofs.Qxb6600290a.Plain
