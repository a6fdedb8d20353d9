/-
  THE CURSOR IN MEMORY: one block of eight cells; what stays where only that block turns; the walk of the cursor's 'at' (37).
-/
import Derived.Test.Qxb6000088aReads
import Derived.Deep.Draws
namespace Go.Proofs.Qxb6000088a
open Go.RowKit Plain

/-- The cursor's block. -/
def curObj (a : Option Addr) (n t : Nat) (pos col fns fc ind : Int) (blk : Bool) : Obj :=
  .cells #[.slice a n n, .pointer (some ⟨t, 0, none⟩), .int .i64 pos, .int .i64 col, .int .i64 fns, .int .i64 fc, .int .i64 ind, .bool blk] 42

/-- Only block c may have turned. -/
structure Same (c : Nat) (w w' : World) : Prop where
  os : w'.os = w.os
  tape : w'.tape = w.tape
  output : w'.output = w.output
  size : w'.heap.size = w.heap.size
  block : ∀ k, k ≠ c → w'.heap[k]? = w.heap[k]?

theorem Same.refl (c : Nat) (w : World) : Same c w w := ⟨rfl, rfl, rfl, rfl, fun _ _ => rfl⟩
theorem Same.trans {c : Nat} {a b d : World} (h : Same c a b) (k : Same c b d) : Same c a d :=
  ⟨k.os.trans h.os, k.tape.trans h.tape, k.output.trans h.output, k.size.trans h.size, fun i hi => (k.block i hi).trans (h.block i hi)⟩
theorem Same.drew {c : Nat} {a w : World} (h : Same c a w) : Same c a w.drew := ⟨h.os, h.tape, h.output, h.size, h.block⟩
theorem Same.drewN {c : Nat} {a w : World} (h : Same c a w) (n : Nat) : Same c a (w.drewN n) := ⟨h.os, h.tape, h.output, h.size, h.block⟩
theorem Same.setCell {c : Nat} {a w : World} (h : Same c a w) (i : Nat) (v : Value) : Same c a (w.setCell ⟨c, i, none⟩ v) :=
  ⟨h.os, h.tape, h.output, by rw [World.size_setCell]; exact h.size, fun k hk => by
    have : (w.setCell ⟨c, i, none⟩ v).heap[k]? = w.heap[k]? := by
      unfold World.setCell
      simp [Array.getElem?_modify, Ne.symm hk]
    rw [this]; exact h.block k hk⟩
theorem Same.cell {c : Nat} {w w' : World} (h : Same c w w') (x : Addr) (hx : x.block ≠ c) : w'.cell? x = w.cell? x := by
  unfold World.cell?; rw [h.block x.block hx]
theorem Same.below {c B : Nat} {w w' : World} (h : Same c w w') (hB : B ≤ c) : Below B w w' :=
  ⟨h.os, h.tape, h.output, by rw [h.size]; exact Nat.le_refl _, fun k hk => h.block k (by omega)⟩

/-- A store into the cursor's block. -/
theorem heap_set {w : World} {c : Nat} {arr : Array Value} {T : TypeId} (h : w.heap[c]? = some (.cells arr T)) (i : Nat) (v : Value) :
    (w.setCell ⟨c, i, none⟩ v).heap[c]? = some (.cells (arr.setIfInBounds i v) T) := by
  unfold World.setCell
  simp [Array.getElem?_modify, h]

theorem set_four {w : World} {c t n : Nat} {a : Option Addr} {pos col fns fc ind : Int} {blk : Bool} (h : w.heap[c]? = some (curObj a n t pos col fns fc ind blk)) (x4 x5 x6 : Int) (x7 : Bool) :
    ((((w.setCell ⟨c, 4, none⟩ (.int .i64 x4)).setCell ⟨c, 5, none⟩ (.int .i64 x5)).setCell ⟨c, 6, none⟩ (.int .i64 x6)).setCell ⟨c, 7, none⟩ (.bool x7)).heap[c]? = some (curObj a n t pos col x4 x5 x6 x7) :=
  heap_set (heap_set (heap_set (heap_set h 4 _) 5 _) 6 _) 7 _
theorem set_pos {w : World} {c t n : Nat} {a : Option Addr} {pos col fns fc ind : Int} {blk : Bool} (h : w.heap[c]? = some (curObj a n t pos col fns fc ind blk)) (x : Int) :
    (w.setCell ⟨c, 2, none⟩ (.int .i64 x)).heap[c]? = some (curObj a n t x col fns fc ind blk) := heap_set h 2 _
theorem set_col {w : World} {c t n : Nat} {a : Option Addr} {pos col fns fc ind : Int} {blk : Bool} (h : w.heap[c]? = some (curObj a n t pos col fns fc ind blk)) (x : Int) :
    (w.setCell ⟨c, 3, none⟩ (.int .i64 x)).heap[c]? = some (curObj a n t pos x fns fc ind blk) := heap_set h 3 _

/-- The cursor lies at block c: over the line 'zs' at 'a', its tail at block t. -/
structure Cur (w : World) (c t : Nat) (a : Option Addr) (zs : List Int) (tb : Bool) (pos col fns fc ind : Int) (blk : Bool) : Prop where
  obj : w.heap[c]? = some (curObj a zs.length t pos col fns fc ind blk)
  line : Line w a zs
  away : ∀ x, a = some x → x.block ≠ c
  tail : w.cell? ⟨t, 6, none⟩ = some (.bool tb)
  apart : t ≠ c

theorem Cur.same {w w' : World} {c t : Nat} {a : Option Addr} {zs : List Int} {tb : Bool} {pos col fns fc ind : Int} {blk : Bool} (h : Cur w c t a zs tb pos col fns fc ind blk) (s : Same c w w')
    {pos' col' fns' fc' ind' : Int} {blk' : Bool} (ho : w'.heap[c]? = some (curObj a zs.length t pos' col' fns' fc' ind' blk')) : Cur w' c t a zs tb pos' col' fns' fc' ind' blk' where
  obj := ho
  line := ⟨fun i hi => by
    obtain ⟨lb, hlb, hc⟩ := h.line.cell i hi
    exact ⟨lb, hlb, (s.cell ⟨lb, i, none⟩ (h.away ⟨lb, 0, none⟩ hlb)).trans hc⟩, h.line.small, h.line.byte⟩
  away := h.away
  tail := by rw [s.cell _ h.apart]; exact h.tail
  apart := h.apart

/-- The cells that the walk asks for. -/
theorem Cur.cells {w : World} {c t : Nat} {a : Option Addr} {zs : List Int} {tb : Bool} {pos col fns fc ind : Int} {blk : Bool} (h : Cur w c t a zs tb pos col fns fc ind blk) :
    w.cell? ⟨c, 0, none⟩ = some (.slice a zs.length zs.length) ∧ w.cell? ⟨c, 1, none⟩ = some (.pointer (some ⟨t, 0, none⟩)) ∧ w.cell? ⟨c, 2, none⟩ = some (.int .i64 pos) ∧ w.cell? ⟨c, 3, none⟩ = some (.int .i64 col) ∧
    w.cell? ⟨c, 4, none⟩ = some (.int .i64 fns) ∧ w.cell? ⟨c, 5, none⟩ = some (.int .i64 fc) ∧ w.cell? ⟨c, 6, none⟩ = some (.int .i64 ind) ∧ w.cell? ⟨c, 7, none⟩ = some (.bool blk) ∧ ∀ i, w.frozen? ⟨c, i, none⟩ = false := by
  have ho := h.obj
  unfold curObj at ho
  refine ⟨?_, ?_, ?_, ?_, ?_, ?_, ?_, ?_, fun i => ?_⟩
  all_goals first | (unfold World.cell?; rw [show (Addr.mk c _ none).block = c from rfl, ho]; rfl) | (unfold World.frozen?; rw [show (Addr.mk c i none).block = c from rfl, ho]; simp)

/-- The cursor's 'at'. -/
theorem at_any (w : World) (c t : Nat) (a : Option Addr) (zs : List Int) (tb : Bool) (pos col fns fc ind : Int) (blk : Bool) (h : Cur w c t a zs tb pos col fns fc ind blk) (i : Nat) :
    Calls Try.prog 37 #[.pointer (some ⟨c, 0, none⟩), .int .i64 (i : Int)] w fun e w' => e = .returned (.int .u8 (atF zs tb i)) ∧ w' = w := by
  obtain ⟨q0, q1, _, _, _, _, _, _, _⟩ := h.cells
  have qt := h.tail
  have hsm := h.line.small
  by_cases hlt : i < zs.length
  · rw [show atF zs tb i = byt zs i by unfold atF; rw [if_pos hlt]]
    obtain ⟨lb, rfl, hcell⟩ := h.line.cell i hlt
    have hb := h.line.byte i
    clear h qt
    generalize byt zs i = b at *
    go_enter Try.func37, Try.ntmps37
    go_wp2
    go_ret
    exact ⟨rfl, rfl⟩
  · cases tb
    · rw [show atF zs false i = 0 by unfold atF; rw [if_neg hlt]; rfl]
      clear h
      go_enter Try.func37, Try.ntmps37
      go_wp2
      go_ret
      exact ⟨rfl, rfl⟩
    · rw [show atF zs true i = 255 by unfold atF; rw [if_neg hlt]; rfl]
      clear h
      go_enter Try.func37, Try.ntmps37
      go_wp2
      go_ret
      exact ⟨rfl, rfl⟩
end Go.Proofs.Qxb6000088a
