/-
  THE WALK of the cursor's 'advance' (39), by columns.
-/
import Derived.Test.Qxb6000088aMem
import Derived.Deep.QuietTactic
import Derived.BigQuiet
import Derived.BigRegion
namespace Go.Proofs.Qxb6000088a
open Go.RowKit Plain

set_option maxRecDepth 100000 in
set_option maxHeartbeats 2000000 in
theorem adv_cols (w : World) (c t : Nat) (a : Option Addr) (zs : List Int) (tb : Bool) (p : Nat) (col fns fc ind : Int) (blk : Bool) (h : Cur w c t a zs tb p col fns fc ind blk)
    (hc : 0 ≤ col) (hc' : col ≤ 536870912) (cnt T : Int) (hT1 : T ≤ col + cnt) (hT2 : col + cnt ≤ T) (h0 : 0 ≤ cnt) (k K : Nat) (hl : Lands zs p col T k) (hK : p + K ≤ zs.length) (ht : T ≤ colTo zs p col K) :
    Calls Try.prog 39 #[.pointer (some ⟨c, 0, none⟩), .int .i64 cnt, .bool true] w fun e w' => e = .returned (.tuple #[]) ∧ Same c w w' ∧
      w'.heap[c]? = some (curObj a zs.length t ((p + k : Nat) : Int) T fns fc ind blk) := by
  have hsm := h.line.small
  have ht9 : T ≤ 1000000000 := by have := (colTo_bd zs p col K).2; omega
  have HK : Hid (T ≤ colTo zs p col K) := ht
  have HN : Hid (Lands zs p col T k) := hl
  have H : Hid (Cur w c t a zs tb p col fns fc ind blk) := h
  clear h hl ht
  go_enter Try.func39, Try.ntmps39
  go_wp2
  go_loopw [1, 6, 7] (fun q _ _ wr => ∃ (j : Nat) (s r : Int), p + j ≤ zs.length ∧ colTo zs p col j ≤ s ∧ 0 ≤ r ∧ s + r ≤ T ∧ T ≤ s + r ∧ q = .int .i64 r ∧ (r = 0 ∨ s = colTo zs p col j) ∧ (s = colTo zs p col j ∨ (p + j < zs.length ∧ T < colTo zs p col (j + 1))) ∧ Same c w wr ∧
      wr.heap[c]? = some (curObj a zs.length t ((p + j : Nat) : Int) s fns fc ind blk)) (fun q _ _ _ => (intOf q).toNat)
  case atStart => exact ⟨0, col, cnt, by omega, by simp [colTo], h0, hT2, hT1, rfl, .inr rfl, .inl rfl, Same.refl c w, H.out.obj⟩
  case round =>
    obtain ⟨j, s, r, hj, hjs, hr, r1, r2, rfl, hz, hp, hs, ho⟩ := hrel
    have hb := colTo_bd zs p col j
    have HD : Hid (Cur wr c t a zs tb ((p + j : Nat) : Int) s fns fc ind blk) := H.out.same hs ho
    have HS : Hid (Same c w wr) := hs
    clear hs ho
    by_cases hr0 : r = 0
    · subst hr0
      obtain rfl : s = T := by omega
      have hkj : k = j := by
        refine lands_one HN.out ⟨hj, hjs, fun hh => ?_⟩
        rcases hp with e | e
        · rw [e]; exact (colTo_lt zs p col j).1
        · exact e.2
      subst hkj
      go_wp2
      go_quiet (fail)
      go_wp2
      go_end0
      exact ⟨rfl, HS.out.drewN nq, HD.out.obj⟩
    · have hsj : s = colTo zs p col j := by omega
      have hlt : p + j < zs.length := by
        by_cases hlt : p + j < zs.length
        · exact hlt
        · have := colTo_mono zs p col K j (by omega)
          have := HK.out
          omega
      clear hz hp
      obtain ⟨lb, rfl, hcell⟩ := HD.out.line.cell (p + j) hlt
      have hbb := HD.out.line.byte (p + j)
      have hr' : 0 < r := by omega
      have HW : ∀ nq, Hid (Cur (wr.drewN nq) c t (some ⟨lb, 0, none⟩) zs tb ((p + j : Nat) : Int) s fns fc ind blk) := fun nq => HD.out.same ((Same.refl c wr).drewN nq) HD.out.obj
      by_cases h9 : byt zs (p + j) = 9
      · have HT : Hid (colTo zs p col (j + 1) = colTo zs p col j + (4 - colTo zs p col j % 4)) := colTo_tab zs p col j h9
        rw [← hsj] at HT
        rw [h9] at hcell
        clear h9 hsj hbb
        obtain ⟨q0, q1, q2, q3, q4, q5, q6, q7, q8⟩ := HD.out.cells
        clear q1 q4 q5 q6 q7
        have f2 := q8 2
        have f3 := q8 3
        clear q8
        by_cases hfull : 4 - s % 4 ≤ r
        · go_wp2
          go_quiet (fail)
          go_wp2
          go_quiet (fail)
          go_wp2
          go_roundw
          case rel =>
            rw [show (if 4 - s % 4 < r then 4 - s % 4 else r) = 4 - s % 4 by split <;> omega]
            refine ⟨j + 1, s + (4 - s % 4), r - (4 - s % 4), by omega, Int.le_of_eq HT.out, by omega, by omega, by omega, rfl, .inr HT.out.symm, .inl HT.out.symm, ((HS.out.drewN _).setCell 3 _).setCell 2 _, ?_⟩
            rw [show ((p + (j + 1) : Nat) : Int) = (p : Int) + j + 1 by omega]
            exact set_pos (set_col (HW _).out.obj _) _
          case measure =>
            rw [show (if 4 - s % 4 < r then 4 - s % 4 else r) = 4 - s % 4 by split <;> omega]
            simp [intOf]; omega
        · go_wp2
          go_quiet (fail)
          go_wp2
          go_quiet (fail)
          go_wp2
          go_roundw
          case rel => exact ⟨j, s + r, 0, by omega, by omega, by omega, by omega, by omega, rfl, .inl rfl, .inr ⟨hlt, by rw [HT.out]; omega⟩, (HS.out.drewN _).setCell 3 _, set_col (HW _).out.obj _⟩
          case measure => simp [intOf]; omega
      · have HT : Hid (colTo zs p col (j + 1) = colTo zs p col j + 1) := colTo_not zs p col j h9
        have h9' : (byt zs (p + j) == 9) = false := beq_eq_false_iff_ne.2 h9
        rw [← hsj] at HT
        clear h9 hsj
        generalize byt zs (p + j) = b at *
        obtain ⟨q0, q1, q2, q3, q4, q5, q6, q7, q8⟩ := HD.out.cells
        clear q1 q4 q5 q6 q7
        have f2 := q8 2
        have f3 := q8 3
        clear q8
        go_wp2
        go_quiet (fail)
        go_wp2
        go_quiet (fail)
        go_wp2
        go_region
        all_goals
          go_wp2
          go_roundw
          case rel =>
            refine ⟨j + 1, s + 1, r - 1, by omega, Int.le_of_eq HT.out, by omega, by omega, by omega, rfl, .inr HT.out.symm, .inl HT.out.symm, ((HS.out.drewN _).setCell 2 _).setCell 3 _, ?_⟩
            rw [show ((p + (j + 1) : Nat) : Int) = (p : Int) + j + 1 by omega]
            exact set_col (set_pos (HW _).out.obj _) _
          case measure => simp [intOf]; omega

set_option maxRecDepth 100000 in
set_option maxHeartbeats 2000000 in
theorem adv_bytes (w : World) (c t : Nat) (a : Option Addr) (zs : List Int) (tb : Bool) (p : Nat) (col fns fc ind : Int) (blk : Bool) (h : Cur w c t a zs tb p col fns fc ind blk)
    (hc : 0 ≤ col) (hc' : col ≤ 536870912) (K : Nat) (q0 : Int) (hq : q0 ≤ K) (hq' : (K : Int) ≤ q0) (hK : p + K ≤ zs.length) :
    Calls Try.prog 39 #[.pointer (some ⟨c, 0, none⟩), .int .i64 q0, .bool false] w fun e w' => e = .returned (.tuple #[]) ∧ Same c w w' ∧
      w'.heap[c]? = some (curObj a zs.length t ((p + K : Nat) : Int) (colTo zs p col K) fns fc ind blk) := by
  have hsm := h.line.small
  have H : Hid (Cur w c t a zs tb p col fns fc ind blk) := h
  clear h
  go_enter Try.func39, Try.ntmps39
  go_wp2
  go_loopw [1, 6, 7] (fun q _ _ wr => ∃ (j : Nat) (r : Int), j + r ≤ K ∧ K ≤ j + r ∧ 0 ≤ r ∧ q = .int .i64 r ∧ Same c w wr ∧
      wr.heap[c]? = some (curObj a zs.length t ((p + j : Nat) : Int) (colTo zs p col j) fns fc ind blk)) (fun q _ _ _ => (intOf q).toNat)
  case atStart => exact ⟨0, q0, by omega, by omega, by omega, rfl, Same.refl c w, H.out.obj⟩
  case round =>
    obtain ⟨j, r, r1, r2, hr, rfl, hs, ho⟩ := hrel
    have hb := colTo_bd zs p col j
    have HD : Hid (Cur wr c t a zs tb ((p + j : Nat) : Int) (colTo zs p col j) fns fc ind blk) := H.out.same hs ho
    have HS : Hid (Same c w wr) := hs
    clear hs ho
    by_cases hr0 : r = 0
    · subst hr0
      obtain rfl : j = K := by omega
      go_wp2
      go_quiet (fail)
      go_wp2
      go_end0
      exact ⟨rfl, HS.out.drewN nq, HD.out.obj⟩
    · have hlt : p + j < zs.length := by omega
      obtain ⟨lb, rfl, hcell⟩ := HD.out.line.cell (p + j) hlt
      have hbb := HD.out.line.byte (p + j)
      have hr' : 0 < r := by omega
      have HW : ∀ nq, Hid (Cur (wr.drewN nq) c t (some ⟨lb, 0, none⟩) zs tb ((p + j : Nat) : Int) (colTo zs p col j) fns fc ind blk) := fun nq => HD.out.same ((Same.refl c wr).drewN nq) HD.out.obj
      obtain ⟨q0, q1, q2, q3, q4, q5, q6, q7, q8⟩ := HD.out.cells
      clear q1 q4 q5 q6 q7
      have f2 := q8 2
      have f3 := q8 3
      clear q8
      by_cases h9 : byt zs (p + j) = 9
      · have HT : Hid (colTo zs p col (j + 1) = colTo zs p col j + (4 - colTo zs p col j % 4)) := colTo_tab zs p col j h9
        rw [h9] at hcell
        clear h9 hbb
        generalize colTo zs p col j = s at *
        go_wp2
        go_quiet (fail)
        go_wp2
        go_quiet (fail)
        go_wp2
        go_region
        all_goals
          go_wp2
          go_roundw
          case rel =>
            refine ⟨j + 1, r - 1, by omega, by omega, by omega, rfl, ((HS.out.drewN _).setCell 2 _).setCell 3 _, ?_⟩
            rw [show ((p + (j + 1) : Nat) : Int) = (p : Int) + j + 1 by omega, HT.out]
            exact set_col (set_pos (HW _).out.obj _) _
          case measure => simp [intOf]; omega
      · have HT : Hid (colTo zs p col (j + 1) = colTo zs p col j + 1) := colTo_not zs p col j h9
        have h9' : (byt zs (p + j) == 9) = false := beq_eq_false_iff_ne.2 h9
        clear h9
        generalize byt zs (p + j) = b at *
        generalize colTo zs p col j = s at *
        go_wp2
        go_quiet (fail)
        go_wp2
        go_quiet (fail)
        go_wp2
        go_region
        all_goals
          go_wp2
          go_roundw
          case rel =>
            refine ⟨j + 1, r - 1, by omega, by omega, by omega, rfl, ((HS.out.drewN _).setCell 2 _).setCell 3 _, ?_⟩
            rw [show ((p + (j + 1) : Nat) : Int) = (p : Int) + j + 1 by omega, HT.out]
            exact set_col (set_pos (HW _).out.obj _) _
          case measure => simp [intOf]; omega
end Go.Proofs.Qxb6000088a
