/-
  THE WALK of the cursor's 'nonspace' (38).
-/
import Derived.Test.Qxb6000088aMem
import Derived.Deep.QuietTactic
import Derived.BigQuiet
import Derived.BigRegion
import Derived.Deep.RegionWith
namespace Go.Proofs.Qxb6000088a
open Go.RowKit Plain

set_option maxHeartbeats 1000000 in
theorem nonspace_any (w : World) (c t : Nat) (a : Option Addr) (zs : List Int) (tb : Bool) (p : Nat) (col fns fc ind : Int) (blk : Bool) (h : Cur w c t a zs tb p col fns fc ind blk)
    (hc : 0 ≤ col) (hc' : col ≤ 268435456) (K : Nat) (hK : Fst zs p K) :
    Calls Try.prog 38 #[.pointer (some ⟨c, 0, none⟩)] w fun e w' => e = .returned (.tuple #[]) ∧ Same c w w' ∧
      w'.heap[c]? = some (curObj a zs.length t p col ((p + K : Nat) : Int) (colTo zs p col K) (colTo zs p col K - col) (atF zs tb (p + K) == 0)) := by
  obtain ⟨q0, q1, q2, q3, q4, q5, q6, q7, q8⟩ := h.cells
  have H : Hid (Cur w c t a zs tb p col fns fc ind blk) := h
  clear h
  go_enter Try.func38, Try.ntmps38
  go_wp2
  go_quiet (fail)
  go_wp2
  have hsm := H.out.line.small
  have hKl := hK.le
  have HK : Hid (Fst zs p K) := hK
  clear hK
  have HD : Hid (Cur (w.drewN nq) c t a zs tb p col fns fc ind blk) := H.out.same ((Same.refl c w).drewN nq) H.out.obj
  have HS : Hid (Same c w (w.drewN nq)) := (Same.refl c w).drewN nq
  generalize w.drewN nq = w1 at *
  clear q0 q1 q2 q3 q4 q5 q6 q7 q8
  go_loop [2, 3, 4] (fun i s d => ∃ j : Nat, j ≤ K ∧ i = .int .i64 ((p + j : Nat) : Int) ∧ s = .int .i64 (colTo zs p col j) ∧ d = .int .i64 (4 - colTo zs p col j % 4)) (fun i _ _ => (p + K - intOf i).toNat)
  case atStart => exact ⟨0, by omega, rfl, rfl, rfl⟩
  case round =>
    obtain ⟨j, hj, rfl, rfl, rfl⟩ := hrel
    have hb := colTo_bd zs p col j
    by_cases hlt : j < K
    · rcases HK.out.all j hlt with e | e
      · have HT : Hid (colTo zs p col (j + 1) = _) := colTo_not zs p col j (by omega)
        generalize colTo zs p col j = s at *
        go_wp2_with fail
        refine (at_any _ c t a zs tb _ _ _ _ _ _ HD.out (p + j)).mono ?_
        rintro e1 w2 ⟨rfl, rfl⟩
        rw [atF_in zs tb (p + j) (by omega), e]
        clear e
        by_cases h3 : s % 4 = 3
        · go_wp2
          refine ⟨⟨j + 1, by omega, by go_num, by rw [HT.out], by rw [HT.out]; congr 1; omega⟩, ?_⟩
          simp [intOf]; omega
        · go_wp2
          refine ⟨⟨j + 1, by omega, by go_num, by rw [HT.out], by rw [HT.out]; congr 1; omega⟩, ?_⟩
          simp [intOf]; omega
      · have HT : Hid (colTo zs p col (j + 1) = _) := colTo_tab zs p col j e
        generalize colTo zs p col j = s at *
        go_wp2_with fail
        refine (at_any _ c t a zs tb _ _ _ _ _ _ HD.out (p + j)).mono ?_
        rintro e1 w2 ⟨rfl, rfl⟩
        rw [atF_in zs tb (p + j) (by omega), e]
        clear e
        go_wp2
        refine ⟨⟨j + 1, by omega, by go_num, by rw [HT.out], by rw [HT.out]; congr 1; omega⟩, ?_⟩
        simp [intOf]; omega
    · obtain rfl : j = K := by omega
      obtain ⟨n1, n2⟩ := atF_stop tb HK.out
      have e1 : (atF zs tb (p + j) == 32) = false := beq_eq_false_iff_ne.2 n1
      have e2 : (atF zs tb (p + j) == 9) = false := beq_eq_false_iff_ne.2 n2
      obtain ⟨b1, b2⟩ := atF_bd zs tb (p + j) HD.out.line.byte
      clear n1 n2
      have HA := fun (w' : World) (h : Cur w' c t a zs tb p col fns fc ind blk) => at_any w' c t a zs tb _ _ _ _ _ _ h (p + j)
      generalize hB : atF zs tb (p + j) = b at *
      have HB : Hid (atF zs tb (p + j) = b) := hB
      clear hB
      have HA' : Hid _ := HA
      clear HA
      go_wp2_with fail
      refine (HA'.out _ HD.out).mono ?_
      rintro e3 w2 ⟨rfl, rfl⟩
      have hb := colTo_bd zs p col j
      obtain ⟨q0, q1, q2, q3, q4, q5, q6, q7, q8⟩ := HD.out.cells
      generalize hC : colTo zs p col j = C at *
      have HC : Hid (colTo zs p col j = C) := hC
      clear hC q0 q1 q2
      have hwr : IntKind.i64.wrap (C - col) = C - col := by rw [IntKind.wrap_i64]; omega
      have f4 := q8 4
      have f5 := q8 5
      have f6 := q8 6
      have f7 := q8 7
      clear q8
      go_wp2
      go_region_with (go_at_call 37; refine (HA'.out _ ?_).mono ?_; exact HD.out.same ((Same.refl _ _).drew) HD.out.obj; rintro e3 w3 ⟨rfl, rfl⟩)
      all_goals
        go_end0
        refine ⟨rfl, ((((HS.out.setCell 4 _).setCell 5 _).setCell 6 _).setCell 7 _).drew, ?_⟩
        rw [HC.out, HB.out, Int.natCast_add, ← hwr]
        exact set_four HD.out.obj _ _ _ _
end Go.Proofs.Qxb6000088a
