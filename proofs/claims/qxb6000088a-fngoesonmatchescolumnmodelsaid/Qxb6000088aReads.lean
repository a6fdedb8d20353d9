/-
  THE WALKS of what only reads the line: zzColAt (17), zzLand (18), spaceOrTab (40), zzBytes (15).
-/
import Derived.Test.Qxb6000088aRows
import Derived.Test.Qxb6000088aPlain
import Derived.WalkKit
import Derived.ProofKit
import Derived.Below
namespace Go.Proofs.Qxb6000088a
open Go.RowKit Plain

/-- The line lies in memory at 'a' (nil where it is empty and never made). -/
structure Line (w : World) (a : Option Addr) (zs : List Int) : Prop where
  cell : ∀ i, i < zs.length → ∃ lb, a = some ⟨lb, 0, none⟩ ∧ w.cell? ⟨lb, i, none⟩ = some (.int .u8 (byt zs i))
  small : zs.length ≤ 1048576
  byte : ∀ i, 0 ≤ byt zs i ∧ byt zs i ≤ 255

theorem ret_int {k : IntKind} {a b : Int} (h : a = b) : Ending.returned (.int k a) = .returned (.int k b) := by rw [h]

theorem ret_two {k j : IntKind} {a b c d : Int} (h : a = b) (h' : c = d) : Ending.returned (.tuple #[.int k a, .int j c]) = .returned (.tuple #[.int k b, .int j d]) := by rw [h, h']

set_option maxHeartbeats 400000 in
theorem colAt_any (zs : List Int) (a : Option Addr) (p k : Nat) (c : Int) (w : World) (hL : Line w a zs) (hpk : p ≤ k) (hk : k ≤ zs.length) (hc : 0 ≤ c) (hc' : c ≤ 536870912) :
    Calls Try.prog 17 #[.slice a zs.length zs.length, .int .i64 p, .int .i64 c, .int .i64 k] w fun e w' => e = .returned (.int .i64 (colTo zs p c (k - p))) ∧ w' = w := by
  have hsm := hL.small
  have HL : Hid (Line w a zs) := hL
  clear hL
  go_enter Try.func17, Try.ntmps17
  go_wp2
  go_loop [9, 10] (fun s i => ∃ j : Nat, p + j ≤ k ∧ i = .int .i64 ((p + j : Nat) : Int) ∧ s = .int .i64 (colTo zs p c j)) (fun _ i => (k - intOf i).toNat)
  case atStart => exact ⟨0, hpk, rfl, rfl⟩
  case round =>
    obtain ⟨j, hj, rfl, rfl⟩ := hrel
    have hb := colTo_bd zs p c j
    by_cases hlt : p + j < k
    · obtain ⟨lb, rfl, hcell⟩ := HL.out.cell (p + j) (by omega)
      have hbb := HL.out.byte (p + j)
      by_cases ht : byt zs (p + j) = 9
      · have HT : Hid (colTo zs p c (j + 1) = _) := colTo_tab zs p c j ht
        rw [ht] at hcell
        clear ht hbb
        generalize colTo zs p c j = s at *
        go_wp2
        refine ⟨⟨j + 1, by omega, by go_num, by rw [HT.out]⟩, ?_⟩
        simp [intOf]; omega
      · have HT : Hid (colTo zs p c (j + 1) = _) := colTo_not zs p c j ht
        have ht' : (byt zs (p + j) == 9) = false := beq_eq_false_iff_ne.2 ht
        clear ht
        generalize byt zs (p + j) = b at *
        generalize colTo zs p c j = s at *
        go_wp2
        refine ⟨⟨j + 1, by omega, by go_num, by rw [HT.out]⟩, ?_⟩
        simp [intOf]; omega
    · go_wp2
      go_ret
      exact ⟨ret_int (by rw [show k - p = j by omega]), rfl⟩

set_option maxHeartbeats 400000 in
theorem land_any (zs : List Int) (a : Option Addr) (p k K : Nat) (c t : Int) (w : World) (hL : Line w a zs) (hc : 0 ≤ c) (hc' : c ≤ 536870912) (hl : Lands zs p c t k) (hK : p + K ≤ zs.length) (ht : t ≤ colTo zs p c K) :
    Calls Try.prog 18 #[.slice a zs.length zs.length, .int .i64 p, .int .i64 c, .int .i64 t] w fun e w' => e = .returned (.tuple #[.int .i64 ((p + k : Nat) : Int), .int .i64 t]) ∧ w' = w := by
  have hsm := hL.small
  have hct : c ≤ t := Int.le_trans (colTo_bd zs p c k).1 hl.low
  have ht9 : t ≤ 1000000000 := by have := (colTo_bd zs p c K).2; omega
  have HL : Hid (Line w a zs) := hL
  have HK : Hid (t ≤ colTo zs p c K) := ht
  have HN : Hid (Lands zs p c t k) := hl
  clear hL hl ht
  go_enter Try.func18, Try.ntmps18
  go_wp2
  go_loop [10, 11, 12] (fun s i _ => ∃ j : Nat, p + j ≤ zs.length ∧ colTo zs p c j ≤ t ∧ i = .int .i64 ((p + j : Nat) : Int) ∧ s = .int .i64 (colTo zs p c j)) (fun _ i _ => (zs.length - intOf i).toNat)
  case atStart => exact ⟨0, by omega, hct, rfl, rfl⟩
  case round =>
    obtain ⟨j, hj, hjt, rfl, rfl⟩ := hrel
    have hb := colTo_bd zs p c j
    by_cases hlt : p + j < zs.length
    · obtain ⟨lb, rfl, hcell⟩ := HL.out.cell (p + j) (by omega)
      have hbb := HL.out.byte (p + j)
      have hst : ∃ d : Int, Hid (colTo zs p c (j + 1) = colTo zs p c j + d) ∧ 1 ≤ d ∧ d ≤ 4 ∧ Hid ((byt zs (p + j) = 9 ∧ d = 4 - colTo zs p c j % 4) ∨ (byt zs (p + j) ≠ 9 ∧ d = 1)) := by
        by_cases e : byt zs (p + j) = 9
        · exact ⟨_, colTo_tab zs p c j e, by omega, by omega, .inl ⟨e, rfl⟩⟩
        · exact ⟨_, colTo_not zs p c j e, by omega, by omega, .inr ⟨e, rfl⟩⟩
      obtain ⟨d, HT, d1, d4, hd⟩ := hst
      have HF : Hid (t < colTo zs p c j + d → k = j) := fun h => lands_one HN.out ⟨by omega, hjt, fun _ => by rw [HT.out]; exact h⟩
      by_cases hin : t < colTo zs p c j + d
      · have hkj := HF.out hin
        subst hkj
        rcases hd.out with ⟨e, rfl⟩ | ⟨e, rfl⟩
        · rw [e] at hcell
          clear hd hbb e HF
          generalize colTo zs p c k = s at *
          go_wp2
          go_ret2
          exact ⟨rfl, rfl⟩
        · have e' : (byt zs (p + k) == 9) = false := beq_eq_false_iff_ne.2 e
          clear hd HF e
          generalize byt zs (p + k) = b at *
          generalize colTo zs p c k = s at *
          go_wp2
          go_ret2
          exact ⟨rfl, rfl⟩
      · rcases hd.out with ⟨e, rfl⟩ | ⟨e, rfl⟩
        · rw [e] at hcell
          clear hd hbb e HF
          generalize colTo zs p c j = s at *
          go_wp2
          refine ⟨⟨j + 1, by omega, by rw [HT.out]; omega, by go_num, by rw [HT.out]⟩, ?_⟩
          simp [intOf]; omega
        · have e' : (byt zs (p + j) == 9) = false := beq_eq_false_iff_ne.2 e
          clear hd HF e
          generalize byt zs (p + j) = b at *
          generalize colTo zs p c j = s at *
          go_wp2
          refine ⟨⟨j + 1, by omega, by rw [HT.out]; omega, by go_num, by rw [HT.out]⟩, ?_⟩
          simp [intOf]; omega
    · have hkj : k = j := lands_one HN.out ⟨hj, hjt, fun h => absurd h hlt⟩
      subst hkj
      have hte : colTo zs p c k = t := by
        have := colTo_mono zs p c K k (by omega)
        have := HK.out
        omega
      rw [hte]
      have HE : Hid (zs.length = p + k) := by show zs.length = p + k; omega
      clear hte hb hjt
      have hge : (zs.length : Int) ≤ ((p + k : Nat) : Int) := by omega
      go_wp2
      go_ret2
      exact ⟨ret_two (congrArg Int.ofNat HE.out) rfl, rfl⟩

theorem sot_yes (b : Int) (w : World) (h : b = 32 ∨ b = 9) : Calls Try.prog 40 #[.int .u8 b] w fun e w' => e = .returned (.bool true) ∧ w' = w := by
  rcases h with rfl | rfl
  · go_enter Try.func40, Try.ntmps40
    go_wp2
    go_ret
    exact ⟨rfl, rfl⟩
  · go_enter Try.func40, Try.ntmps40
    go_wp2
    go_ret
    exact ⟨rfl, rfl⟩
theorem sot_no (b : Int) (w : World) (h : b ≠ 32) (h' : b ≠ 9) : Calls Try.prog 40 #[.int .u8 b] w fun e w' => e = .returned (.bool false) ∧ w' = w := by
  have e1 : (b == 32) = false := beq_eq_false_iff_ne.2 h
  have e2 : (b == 9) = false := beq_eq_false_iff_ne.2 h'
  clear h h'
  go_enter Try.func40, Try.ntmps40
  go_wp2
  go_ret
  exact ⟨rfl, rfl⟩

theorem bytes_yes (a : Option Addr) (n cap : Nat) (v1 v2 v3 v4 v5 v6 v7 : Value) (w : World) (h : n ≤ 1048576) :
    Calls Try.prog 15 #[.slice a n cap, v1, v2, v3, v4, v5, v6, v7] w fun e w' => e = .returned (.bool true) ∧ w' = w := by
  go_enter Try.func15, Try.ntmps15
  go_wp2
  go_ret
  exact ⟨rfl, rfl⟩
theorem bytes_no (a : Option Addr) (n cap : Nat) (v1 v2 v3 v4 v5 v6 v7 : Value) (w : World) (h : 1048576 < n) :
    Calls Try.prog 15 #[.slice a n cap, v1, v2, v3, v4, v5, v6, v7] w fun e w' => e = .returned (.bool false) ∧ w' = w := by
  go_enter Try.func15, Try.ntmps15
  go_wp2
  go_ret
  exact ⟨rfl, rfl⟩

end Go.Proofs.Qxb6000088a
