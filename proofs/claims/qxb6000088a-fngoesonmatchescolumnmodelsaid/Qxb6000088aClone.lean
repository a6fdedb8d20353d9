/-
  THE WALK of zzClone (9): a fresh copy; nil stays nil.
-/
import Derived.Test.Qxb6000088aMem
import Derived.WalkSpells
import Derived.Laws.MakeOwn
import Derived.Laws.CopyOwn
namespace Go.Proofs.Qxb6000088a
open Go.RowKit Plain

theorem info5 : (Try.prog.info? 5).map (fun i => (i.zero, i.size, i.bytes)) = some (some (.int .u8 0), 1, 1) := by kernel_rfl
theorem size5 : (Try.prog.info? 5).map (·.size) = some 1 := by kernel_rfl

theorem make_bytes (w : World) (n : Nat) (hn : n ≤ 1048576) :
    (Instr.makeSlice 22 (.int .i64 (n : Int)) (.int .i64 (n : Int))).run Try.prog w = .ok (.slice (some ⟨w.heap.size, 0, none⟩) n n) (w.alloc (.cells (madeCells #[.int .u8 0] n) 5)) := by
  have h5 := info5
  cases hi : Try.prog.info? 5 with
  | none => rw [hi] at h5; cases h5
  | some i =>
    rw [hi] at h5
    simp only [Option.map_some, Option.some.injEq, Prod.mk.injEq] at h5
    obtain ⟨hz, hs, hb⟩ := h5
    have := run_make (P := Try.prog) w 22 5 i (.int .u8 0) Try.underlying22 hi hz .i64 .i64 n n (by omega) (by omega) (by rw [hb]; omega) (by omega)
    rw [hs] at this
    simpa [Value.cells] using this

/-- The cells of a row of bytes. -/
def byteCells (zs : List Int) : List Value := zs.map fun z => Value.int .u8 z

theorem line_of {w : World} {g : Nat} {zs : List Int} (h : w.heap[g]? = some (.cells (byteCells zs).toArray 5 (0, 0))) (hs : zs.length ≤ 1048576) (hb : ∀ i, 0 ≤ byt zs i ∧ byt zs i ≤ 255) : Line w (some ⟨g, 0, none⟩) zs := by
  refine ⟨fun i hi => ⟨g, rfl, ?_⟩, hs, hb⟩
  unfold World.cell?
  rw [show (Addr.mk g i none).block = g from rfl, h]
  simp [byteCells, byt, hi]

theorem copy_bytes (w : World) (x : Addr) (n cap : Nat) (zs : List Int) (hz : zs.length = n) (hc : ∀ i, i < n → w.cell? (x.add i) = some (.int .u8 (byt zs i))) (ty : TypeId) :
    ∃ w', (Builtin.copy_ #[22, 22] ty #[.slice (some ⟨w.heap.size, 0, none⟩) n n, .slice (some x) n cap]).run Try.prog (w.alloc (.cells (madeCells #[.int .u8 0] n) 5)) = .ok (goInt (n : Int)) w' ∧
      Below w.heap.size w w' ∧ w'.heap.size = w.heap.size + 1 ∧ w'.heap[w.heap.size]? = some (.cells (byteCells zs).toArray 5 (0, 0)) := by
  have hg : (w.alloc (.cells (madeCells #[.int .u8 0] n) 5)).heap[w.heap.size]? = some (.cells (madeCells #[.int .u8 0] n) 5 (0, 0)) := by
    unfold World.alloc
    simp only [Array.getElem?_push]
    rw [if_pos trivial]
  have hlen : (byteCells zs).length = Nat.min n n := by simp [byteCells, hz]
  have hsrc : ∀ j v, (byteCells zs)[j]? = some v → (w.alloc (.cells (madeCells #[.int .u8 0] n) 5)).cell? (x.add j) = some v := by
    intro j v hv
    have hj : j < zs.length := by
      by_cases e : j < zs.length
      · exact e
      · rw [List.getElem?_eq_none (by simp [byteCells]; omega)] at hv; cases hv
    have hcj := hc j (by omega)
    have hb : (x.add j).block < w.heap.size := by
      by_cases e : (x.add j).block < w.heap.size
      · exact e
      · unfold World.cell? at hcj; rw [Array.getElem?_eq_none (by omega)] at hcj; cases hcj
    rw [World.cell?_alloc_lt w _ _ hb, hcj]
    rw [← hv]
    simp [byteCells, byt, hj]
  have hone : ∀ v ∈ byteCells zs, v.oneCell' = true := by
    intro v hv
    simp only [byteCells, List.mem_map] at hv
    obtain ⟨z, _, rfl⟩ := hv
    rfl
  have hr := run_copy_row (P := Try.prog) (w.alloc (.cells (madeCells #[.int .u8 0] n) 5)) 22 22 ty 5 w.heap.size 0 n n x n cap (madeCells #[.int .u8 0] n) 5 (byteCells zs) Try.underlying22 size5 hg hlen hsrc (by rw [size_madeCells, hlen]; simp) hone
  have hfull : (madeCells #[Value.int .u8 0] n).toList.drop (0 + (byteCells zs).length) = [] := by
    apply List.drop_eq_nil_of_le
    rw [Array.length_toList, size_madeCells, hlen]; simp
  rw [hfull] at hr
  simp only [List.take_zero, List.nil_append, List.append_nil] at hr
  rw [show (byteCells zs).length = n by simp [byteCells, hz]] at hr
  refine ⟨_, hr, ?_, ?_, ?_⟩
  · exact below_setRow ((Below.refl _ _).alloc (Nat.le_refl _) _) (Nat.le_refl _) _
  · simp [World.setRow]
  · exact setRow_heap _ _ _ _ 5 _ hg

theorem clone_nil (w : World) : Calls Try.prog 9 #[.slice none 0 0] w fun e w' => e = .returned (.slice none 0 0) ∧ w' = w := by
  have he := Lib.run_eql_slice_nil (P := Try.prog) w 22 5 none 0 0 0 0 Try.underlying22
  go_enter Try.func9, Try.ntmps9
  go_wp2
  go_ret
  exact ⟨rfl, rfl⟩

theorem clone_some (w : World) (x : Addr) (n cap : Nat) (zs : List Int) (hn : n ≤ 1048576) (hz : zs.length = n) (hc : ∀ i, i < n → w.cell? (x.add i) = some (.int .u8 (byt zs i))) :
    Calls Try.prog 9 #[.slice (some x) n cap] w fun e w' => e = .returned (.slice (some ⟨w.heap.size, 0, none⟩) n n) ∧ Below w.heap.size w w' ∧ w'.heap.size = w.heap.size + 1 ∧ w'.heap[w.heap.size]? = some (.cells (byteCells zs).toArray 5 (0, 0)) := by
  have he := Lib.run_eql_slice_nil (P := Try.prog) w 22 5 (some x) n cap 0 0 Try.underlying22
  have hm := make_bytes w n hn
  obtain ⟨w', hr, hb, hsz, hh⟩ := copy_bytes w x n cap zs hz hc 3
  have HB : Hid (Below w.heap.size w w' ∧ w'.heap.size = w.heap.size + 1 ∧ w'.heap[w.heap.size]? = some (.cells (byteCells zs).toArray 5 (0, 0))) := ⟨hb, hsz, hh⟩
  clear hc hz hb hsz hh
  go_enter Try.func9, Try.ntmps9
  go_wp2
  go_ret
  exact ⟨rfl, HB.out⟩

/-- zzClone at whatever slice: what comes back is a line of its own. -/
theorem clone_any (w : World) (a : Option Addr) (n cap : Nat) (zs : List Int) (hn : n ≤ 1048576) (hz : zs.length = n) (hb : ∀ i, 0 ≤ byt zs i ∧ byt zs i ≤ 255)
    (h : (a = none ∧ n = 0 ∧ cap = 0) ∨ ∃ x, a = some x ∧ ∀ i, i < n → w.cell? (x.add i) = some (.int .u8 (byt zs i))) :
    Calls Try.prog 9 #[.slice a n cap] w fun e w' => ∃ a', e = .returned (.slice a' zs.length zs.length) ∧ Line w' a' zs ∧ (∀ x, a' = some x → x.block < w'.heap.size) ∧ Below w.heap.size w w' := by
  rcases h with ⟨rfl, rfl, rfl⟩ | ⟨x, rfl, hc⟩
  · refine (clone_nil w).mono ?_
    rintro e w' ⟨rfl, rfl⟩
    refine ⟨none, by rw [hz], ⟨fun i hi => absurd hi (by omega), by omega, hb⟩, fun x hx => (by cases hx), Below.refl _ _⟩
  · refine (clone_some w x n cap zs hn hz hc).mono ?_
    rintro e w' ⟨rfl, hb1, hsz, hh⟩
    refine ⟨some ⟨w.heap.size, 0, none⟩, by rw [hz], line_of hh (by omega) hb, fun x hx => ?_, hb1⟩
    simp only [Option.some.injEq] at hx
    subst hx
    show w.heap.size < w'.heap.size
    omega

/-- A line stays where only what lies above it turns. -/
theorem Line.below {w w' : World} {a : Option Addr} {zs : List Int} (h : Line w a zs) (ha : ∀ x, a = some x → x.block < w.heap.size) (hb : Below w.heap.size w w') : Line w' a zs := by
  refine ⟨fun i hi => ?_, h.small, h.byte⟩
  obtain ⟨lb, hlb, hc⟩ := h.cell i hi
  refine ⟨lb, hlb, ?_⟩
  have := hb.block lb (ha _ hlb)
  unfold World.cell? at hc ⊢
  rw [show (Addr.mk lb i none).block = lb from rfl] at hc ⊢
  rw [this]
  exact hc
end Go.Proofs.Qxb6000088a
