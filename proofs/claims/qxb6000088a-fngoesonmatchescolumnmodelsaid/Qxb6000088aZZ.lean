/-
  THE WALK of ZZGoesOn (16): it makes the tail, the cursor and the block, and calls goesOn.
-/
import Derived.Test.Qxb6000088aGoesOn
namespace Go.Proofs.Qxb6000088a
open Go.RowKit Plain

/-- The tail's block, the open block's block, and the world in which goesOn is called. -/
def tailObj (tb : Bool) : Obj :=
  .cells #[.int .i64 0, .int .u8 0, .int .i64 0, .bool false, .bool false, .bool false, .bool tb, .bool false, .int .u8 0, .int .i64 0, .int .u8 0, .int .u8 0, .int .u8 0, .int .u8 0, .int .u8 0, .int .u8 0, .int .u8 0, .int .u8 0, .int .u8 0, .int .u8 0, .int .u8 0, .int .i64 0] 40
def openObj (kd width : Int) (empty : Bool) (html : Int) : Obj :=
  .cells #[.int .u8 kd, .int .i64 width, .bool empty, .int .u8 0, .int .i64 0, .int .i64 html, .string { data := #[] }] 48
def made (w : World) (a : Option Addr) (n : Nat) (tb : Bool) (p col kd width : Int) (empty : Bool) (html : Int) : World :=
  ((w.alloc (tailObj tb)).alloc (curObj a n w.heap.size p col 0 0 0 false)).alloc (openObj kd width empty html)

theorem made_heap (w : World) (a : Option Addr) (n : Nat) (tb : Bool) (p col kd width : Int) (empty : Bool) (html : Int) :
    (∀ k, k < w.heap.size → (made w a n tb p col kd width empty html).heap[k]? = w.heap[k]?) ∧ (made w a n tb p col kd width empty html).heap[w.heap.size]? = some (tailObj tb) ∧
    (made w a n tb p col kd width empty html).heap[w.heap.size + 1]? = some (curObj a n w.heap.size p col 0 0 0 false) ∧ (made w a n tb p col kd width empty html).heap[w.heap.size + 1 + 1]? = some (openObj kd width empty html) ∧
    (made w a n tb p col kd width empty html).heap.size = w.heap.size + 3 := by
  unfold made World.alloc
  refine ⟨fun k hk => ?_, ?_, ?_, ?_, ?_⟩
  · simp only [Array.getElem?_push, Array.size_push]
    rw [if_neg (by omega), if_neg (by omega), if_neg (by omega)]
  · simp only [Array.getElem?_push, Array.size_push]
    rw [if_neg (by omega), if_neg (by omega), if_pos trivial]
  · simp only [Array.getElem?_push, Array.size_push]
    rw [if_neg (by omega), if_pos trivial]
  · simp only [Array.getElem?_push, Array.size_push]
    rw [if_pos trivial]
  · simp only [Array.size_push]

theorem made_below (w : World) (a : Option Addr) (n : Nat) (tb : Bool) (p col kd width : Int) (empty : Bool) (html : Int) : Below w.heap.size w (made w a n tb p col kd width empty html) :=
  ⟨rfl, rfl, rfl, by rw [(made_heap w a n tb p col kd width empty html).2.2.2.2]; omega, (made_heap w a n tb p col kd width empty html).1⟩

theorem made_goes (w : World) (a : Option Addr) (zs : List Int) (tb : Bool) (p : Nat) (col kd width : Int) (empty : Bool) (html : Int) (K : Nat) (hL : Line w a zs) (haw : ∀ x, a = some x → x.block < w.heap.size)
    (hK : Fst zs p K) (hl : 0 ≤ col) (hh : col ≤ 268435456) : Goes (made w a zs.length tb p col kd width empty html) (w.heap.size + 1) w.heap.size (w.heap.size + 1 + 1) a zs tb p col kd width empty html K := by
  obtain ⟨m1, m2, m3, m4, m5⟩ := made_heap w a zs.length tb p col kd width empty html
  have old : ∀ x : Addr, x.block < w.heap.size → (made w a zs.length tb p col kd width empty html).cell? x = w.cell? x := fun x hx => by
    unfold World.cell?; rw [m1 x.block hx]
  refine ⟨⟨m3, ⟨fun i hi => ?_, hL.small, hL.byte⟩, fun x hx => ?_, ?_, by omega⟩, by omega, ?_, ?_, ?_, ?_, hK, hl, hh⟩
  · obtain ⟨lb, hlb, hc⟩ := hL.cell i hi
    exact ⟨lb, hlb, (old ⟨lb, i, none⟩ (haw ⟨lb, 0, none⟩ hlb)).trans hc⟩
  · have := haw x hx; omega
  · unfold World.cell?; rw [show (Addr.mk w.heap.size 6 none).block = w.heap.size from rfl, m2]; rfl
  · unfold World.cell?; rw [show (Addr.mk (w.heap.size + 1 + 1) 0 none).block = w.heap.size + 1 + 1 from rfl, m4]; rfl
  · unfold World.cell?; rw [show (Addr.mk (w.heap.size + 1 + 1) 1 none).block = w.heap.size + 1 + 1 from rfl, m4]; rfl
  · unfold World.cell?; rw [show (Addr.mk (w.heap.size + 1 + 1) 2 none).block = w.heap.size + 1 + 1 from rfl, m4]; rfl
  · unfold World.cell?; rw [show (Addr.mk (w.heap.size + 1 + 1) 5 none).block = w.heap.size + 1 + 1 from rfl, m4]; rfl

theorem below_draws {B : Nat} {w w' : World} (h : Below B w w') (n : Nat) : Below B w (w'.drewN n) := ⟨h.os, h.tape, h.output, h.size, h.block⟩

set_option maxRecDepth 100000 in
set_option maxHeartbeats 1000000 in
theorem zz_any (w : World) (a : Option Addr) (zs : List Int) (tb : Bool) (p : Nat) (col kd width : Int) (empty : Bool) (html : Int) (K : Nat) (hL : Line w a zs) (haw : ∀ x, a = some x → x.block < w.heap.size)
    (hK : Fst zs p K) (hl : 0 ≤ col) (hh : col ≤ 268435456) (ok : Bool) (P Q : Int)
    (HG : Hid (∀ w c t b, Goes w c t b a zs tb p col kd width empty html K → Calls Try.prog 23 #[.pointer (some ⟨c, 0, none⟩), .pointer (some ⟨b, 0, none⟩)] w (Ends w c t a zs tb p col K ok P Q))) :
    Calls Try.prog 16 #[.slice a zs.length zs.length, .bool tb, .int .i64 p, .int .i64 col, .int .u8 kd, .int .i64 width, .bool empty, .int .i64 html] w fun e w' =>
      e = .returned (.tuple #[.bool ok, .int .i64 P, .int .i64 Q, .int .i64 ((p + K : Nat) : Int), .int .i64 (colTo zs p col K), .int .i64 (colTo zs p col K - col), .bool (atF zs tb (p + K) == 0)]) ∧ Below w.heap.size w w' := by
  have HM : Hid (Goes (made w a zs.length tb p col kd width empty html) (w.heap.size + 1) w.heap.size (w.heap.size + 1 + 1) a zs tb p col kd width empty html K) := made_goes w a zs tb p col kd width empty html K hL haw hK hl hh
  have HB : Hid (Below w.heap.size w (made w a zs.length tb p col kd width empty html)) := made_below w a zs.length tb p col kd width empty html
  clear hL haw hK
  go_enter Try.func16, Try.ntmps16
  go_wp2_with fail
  refine (HG.out _ _ _ _ HM.out).mono ?_
  rintro e w2 ⟨rfl, hs, ho⟩
  have HD := HM.out.cur.same hs ho
  have HW : Hid (Below w.heap.size w w2) := HB.out.trans (hs.below (by omega))
  obtain ⟨q0, q1, q2, q3, q4, q5, q6, q7, q8⟩ := HD.cells
  clear hs ho HD HB HM HG
  go_wp2
  go_quiet (fail)
  go_wp2
  exact bodyPost_ret (v := .tuple #[.bool ok, .int .i64 P, .int .i64 Q, .int .i64 ((p + K : Nat) : Int), .int .i64 (colTo zs p col K), .int .i64 (colTo zs p col K - col), .bool (atF zs tb (p + K) == 0)])
    (by simp [results, Try.results16, go_sem]) rfl ⟨rfl, below_draws HW.out nq⟩
end Go.Proofs.Qxb6000088a
