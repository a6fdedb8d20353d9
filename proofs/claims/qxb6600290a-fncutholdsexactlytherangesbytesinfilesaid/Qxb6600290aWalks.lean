/-
  THE WALKS of seat b6600290a: a contract a function: Count (12), zzCeilChunks (13), Cut (14), zzModelCut (15), zzInRange (16), Span (17).
-/
import Derived.Test.Qxb6600290aRows
import Derived.Test.Qxb6600290aPlain
import Derived.WalkKit
import Derived.ProofKit
import Derived.Below
namespace Go.Proofs.Qxb6600290a
open Go.RowKit Plain

theorem count_any (s : Int) (w : World) (h1 : -9223372036854775808 ≤ s) (h2 : s ≤ 9223372036854775807) :
    Calls Try.prog 12 #[.int .i64 s] w fun e w' => e = .returned (.int .i64 (cnt s)) ∧ w' = w := by
  by_cases h : s ≤ 0
  · rw [show cnt s = 0 by unfold cnt; rw [if_pos h]]
    go_enter Try.func12, Try.ntmps12
    go_wp2
    go_ret
    exact ⟨rfl, rfl⟩
  · rw [show cnt s = (s - 1) / 1048576 + 1 by unfold cnt; rw [if_neg h]]
    go_enter Try.func12, Try.ntmps12
    go_wp2
    go_ret
    exact ⟨rfl, rfl⟩

theorem ceil_any (x : Int) (w : World) (h1 : 0 ≤ x) (h2 : x ≤ 9223372036854775807) :
    Calls Try.prog 13 #[.int .i64 x] w fun e w' => e = .returned (.int .i64 (ceil x)) ∧ w' = w := by
  have hm := mask x h1 h2
  by_cases h : x % 1048576 = 0
  · rw [show ceil x = x / 1048576 by unfold ceil; rw [if_pos h]]
    rw [h] at hm
    go_enter Try.func13, Try.ntmps13
    go_wp2
    go_ret
    exact ⟨rfl, rfl⟩
  · rw [show ceil x = x / 1048576 + 1 by unfold ceil; rw [if_neg h]]
    have hb : (bits .and .i64 x 1048575 != 0) = true := by rw [hm, bne_iff_ne]; exact h
    go_enter Try.func13, Try.ntmps13
    go_wp2
    go_ret
    exact ⟨rfl, rfl⟩

theorem cut_any (o l s : Int) (w : World) (ho : -9223372036854775808 ≤ o) (ho' : o ≤ 9223372036854775807) (hl : -9223372036854775808 ≤ l) (hl' : l ≤ 9223372036854775807) (hs : -9223372036854775808 ≤ s) (hs' : s ≤ 9223372036854775807) :
    Calls Try.prog 14 #[.int .i64 o, .int .i64 l, .int .i64 s] w fun e w' => e = .returned (.tuple #[.int .i64 (cutLo o l s), .int .i64 (cutHi o l s)]) ∧ w' = w := by
  by_cases c1 : o < 0
  · rw [show cutLo o l s = 0 by unfold cutLo; rw [if_pos c1]]
    by_cases c2 : l ≤ 0
    · rw [show cutHi o l s = 0 by unfold cutHi; rw [if_pos c1, if_pos (by omega)]]
      go_enter Try.func14, Try.ntmps14
      go_wp2
      go_ret2
      exact ⟨rfl, rfl⟩
    · by_cases c3 : l + o ≤ 0
      · rw [show cutHi o l s = 0 by unfold cutHi; rw [if_pos c1, if_pos (by omega)]]
        go_enter Try.func14, Try.ntmps14
        go_wp2
        go_ret2
        exact ⟨rfl, rfl⟩
      · by_cases c4 : s ≤ 0
        · rw [show cutHi o l s = 0 by unfold cutHi; rw [if_pos c1, if_pos (by omega)]]
          go_enter Try.func14, Try.ntmps14
          go_wp2
          go_ret2
          exact ⟨rfl, rfl⟩
        · by_cases c5 : l + o < s
          · rw [show cutHi o l s = l + o by unfold cutHi; rw [if_pos c1, if_neg (by omega), if_pos c5]]
            go_enter Try.func14, Try.ntmps14
            go_wp2
            go_ret2
            exact ⟨rfl, rfl⟩
          · rw [show cutHi o l s = s by unfold cutHi; rw [if_pos c1, if_neg (by omega), if_neg c5]]
            go_enter Try.func14, Try.ntmps14
            go_wp2
            go_ret2
            exact ⟨rfl, rfl⟩
  · by_cases c2 : l ≤ 0
    · rw [show cutLo o l s = 0 by unfold cutLo; rw [if_neg c1, if_pos (by omega)], show cutHi o l s = 0 by unfold cutHi; rw [if_neg c1, if_pos (by omega)]]
      go_enter Try.func14, Try.ntmps14
      go_wp2
      go_ret2
      exact ⟨rfl, rfl⟩
    · by_cases c3 : s ≤ o
      · rw [show cutLo o l s = 0 by unfold cutLo; rw [if_neg c1, if_pos (by omega)], show cutHi o l s = 0 by unfold cutHi; rw [if_neg c1, if_pos (by omega)]]
        go_enter Try.func14, Try.ntmps14
        go_wp2
        go_ret2
        exact ⟨rfl, rfl⟩
      · rw [show cutLo o l s = o by unfold cutLo; rw [if_neg c1, if_neg (by omega)]]
        by_cases c4 : l < s - o
        · rw [show cutHi o l s = o + l by unfold cutHi; rw [if_neg c1, if_neg (by omega), if_pos c4]]
          go_enter Try.func14, Try.ntmps14
          go_wp2
          go_ret2
          exact ⟨rfl, rfl⟩
        · rw [show cutHi o l s = s by unfold cutHi; rw [if_neg c1, if_neg (by omega), if_neg c4]]
          go_enter Try.func14, Try.ntmps14
          go_wp2
          go_ret2
          exact ⟨rfl, rfl⟩

/-- zzModelCut comes to what Cut comes to. -/
theorem model_any (o l s : Int) (w : World) (ho : -9223372036854775808 ≤ o) (ho' : o ≤ 9223372036854775807) (hl : -9223372036854775808 ≤ l) (hl' : l ≤ 9223372036854775807) (hs : -9223372036854775808 ≤ s) (hs' : s ≤ 9223372036854775807) :
    Calls Try.prog 15 #[.int .i64 o, .int .i64 l, .int .i64 s] w fun e w' => e = .returned (.tuple #[.int .i64 (cutLo o l s), .int .i64 (cutHi o l s)]) ∧ w' = w := by
  by_cases c2 : l ≤ 0
  · rw [show cutLo o l s = 0 by unfold cutLo; split <;> simp [c2], show cutHi o l s = 0 by unfold cutHi; split <;> simp [c2]]
    go_enter Try.func15, Try.ntmps15
    go_wp2
    go_ret2
    exact ⟨rfl, rfl⟩
  · by_cases c1 : o < 0
    · rw [show cutLo o l s = 0 by unfold cutLo; rw [if_pos c1]]
      by_cases c3 : s < l + o
      · by_cases c4 : s ≤ 0
        · rw [show cutHi o l s = 0 by unfold cutHi; rw [if_pos c1, if_pos (by omega)]]
          go_enter Try.func15, Try.ntmps15
          go_wp2
          go_ret2
          exact ⟨rfl, rfl⟩
        · rw [show cutHi o l s = s by unfold cutHi; rw [if_pos c1, if_neg (by omega), if_neg (by omega)]]
          go_enter Try.func15, Try.ntmps15
          go_wp2
          go_ret2
          exact ⟨rfl, rfl⟩
      · by_cases c4 : l + o ≤ 0
        · rw [show cutHi o l s = 0 by unfold cutHi; rw [if_pos c1, if_pos (by omega)]]
          go_enter Try.func15, Try.ntmps15
          go_wp2
          go_ret2
          exact ⟨rfl, rfl⟩
        · rw [show cutHi o l s = o + l by unfold cutHi; rw [if_pos c1, if_neg (by omega)]; split <;> omega]
          go_enter Try.func15, Try.ntmps15
          go_wp2
          go_ret2
          exact ⟨rfl, rfl⟩
    · by_cases c3 : s ≤ o
      · rw [show cutLo o l s = 0 by unfold cutLo; rw [if_neg c1, if_pos (by omega)], show cutHi o l s = 0 by unfold cutHi; rw [if_neg c1, if_pos (by omega)]]
        by_cases c5 : 9223372036854775807 - l < o
        · by_cases c0 : 0 < o
          · go_enter Try.func15, Try.ntmps15
            go_wp2
            all_goals (go_ret2; exact ⟨rfl, rfl⟩)
          · omega
        · by_cases c0 : 0 < o
          · go_enter Try.func15, Try.ntmps15
            go_wp2
            go_ret2
            exact ⟨rfl, rfl⟩
          · go_enter Try.func15, Try.ntmps15
            go_wp2
            go_ret2
            exact ⟨rfl, rfl⟩
      · rw [show cutLo o l s = o by unfold cutLo; rw [if_neg c1, if_neg (by omega)]]
        by_cases c5 : 9223372036854775807 - l < o
        · by_cases c0 : 0 < o
          · rw [show cutHi o l s = s by unfold cutHi; rw [if_neg c1, if_neg (by omega), if_neg (by omega)]]
            by_cases c6 : s < 9223372036854775807
            · go_enter Try.func15, Try.ntmps15
              go_wp2
              go_ret2
              exact ⟨rfl, rfl⟩
            · obtain rfl : s = 9223372036854775807 := by omega
              go_enter Try.func15, Try.ntmps15
              go_wp2
              go_ret2
              exact ⟨rfl, rfl⟩
          · omega
        · by_cases c6 : s < o + l
          · rw [show cutHi o l s = s by unfold cutHi; rw [if_neg c1, if_neg (by omega), if_neg (by omega)]]
            by_cases c0 : 0 < o
            · go_enter Try.func15, Try.ntmps15
              go_wp2
              go_ret2
              exact ⟨rfl, rfl⟩
            · go_enter Try.func15, Try.ntmps15
              go_wp2
              go_ret2
              exact ⟨rfl, rfl⟩
          · rw [show cutHi o l s = o + l by unfold cutHi; rw [if_neg c1, if_neg (by omega)]; split <;> omega]
            by_cases c0 : 0 < o
            · go_enter Try.func15, Try.ntmps15
              go_wp2
              go_ret2
              exact ⟨rfl, rfl⟩
            · go_enter Try.func15, Try.ntmps15
              go_wp2
              go_ret2
              exact ⟨rfl, rfl⟩

/-- zzInRange. -/
theorem inRange_any (p o l : Int) (w : World) (hp : -9223372036854775808 ≤ p) (hp' : p ≤ 9223372036854775807) (ho : -9223372036854775808 ≤ o) (ho' : o ≤ 9223372036854775807) (hl : -9223372036854775808 ≤ l) (hl' : l ≤ 9223372036854775807) :
    Calls Try.prog 16 #[.int .i64 p, .int .i64 o, .int .i64 l] w fun e w' => e = .returned (.bool (inR p o l)) ∧ w' = w := by
  by_cases c1 : l ≤ 0
  · rw [show inR p o l = false by unfold inR; simp; omega]
    go_enter Try.func16, Try.ntmps16
    go_wp2
    go_ret
    exact ⟨rfl, rfl⟩
  · by_cases c2 : p < o
    · rw [show inR p o l = false by unfold inR; simp; omega]
      go_enter Try.func16, Try.ntmps16
      go_wp2
      go_ret
      exact ⟨rfl, rfl⟩
    · have hr := inR_wrap p o l hp hp' ho ho' hl hl' (by omega) (by omega)
      rw [← hr]
      clear hr
      go_enter Try.func16, Try.ntmps16
      go_wp2
      go_ret
      exact ⟨rfl, rfl⟩

theorem span_any (o l s : Int) (w : World) (ho : -9223372036854775808 ≤ o) (ho' : o ≤ 9223372036854775807) (hl : -9223372036854775808 ≤ l) (hl' : l ≤ 9223372036854775807) (hs : -9223372036854775808 ≤ s) (hs' : s ≤ 9223372036854775807) :
    Calls Try.prog 17 #[.int .i64 o, .int .i64 l, .int .i64 s] w fun e w' => e = .returned (.tuple #[.int .i64 (cutLo o l s / 1048576), .int .i64 (cnt (cutHi o l s))]) ∧ w' = w := by
  have hb := cut_bd o l s hs'
  have hc := cut_any o l s w ho ho' hl hl' hs hs'
  generalize cutLo o l s = a at *
  generalize cutHi o l s = b at *
  obtain ⟨b1, b2, b3⟩ := hb
  have HC : Hid (Calls Try.prog 14 #[.int .i64 o, .int .i64 l, .int .i64 s] w fun e w' => e = .returned (.tuple #[.int .i64 a, .int .i64 b]) ∧ w' = w) := hc
  clear hc
  rcases b3 with ⟨rfl, rfl⟩ | ⟨b3, b4⟩
  · go_enter Try.func17, Try.ntmps17
    go_wp2_with fail
    refine (HC.out).mono ?_
    rintro e w' ⟨rfl, rfl⟩
    go_wp2
    go_ret2
    exact ⟨by simp [cnt], rfl⟩
  · have hne : (a == b) = false := beq_eq_false_iff_ne.2 (by omega)
    go_enter Try.func17, Try.ntmps17
    go_wp2_with fail
    refine (HC.out).mono ?_
    rintro e w' ⟨rfl, rfl⟩
    go_wp2_with fail
    refine (count_any b _ (by omega) (by omega)).mono ?_
    rintro e w' ⟨rfl, rfl⟩
    go_wp2
    go_ret2
    exact ⟨rfl, rfl⟩

end Go.Proofs.Qxb6600290a
