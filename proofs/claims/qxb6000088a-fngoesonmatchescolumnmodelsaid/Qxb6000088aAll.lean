/-
  THE LAW's WALKS PUT TOGETHER: at each kind of block the way that goesOn takes.
-/
import Derived.Test.Qxb6000088aGoesOnB
import Derived.Test.Qxb6000088aLaw
import Derived.Test.Qxb6000088aLawOut
namespace Go.Proofs.Qxb6000088a
open Go.RowKit Plain

theorem all_In (w : World) (a : Option Addr) (cap : Nat) (zs : List Int) (tb : Bool) (p : Nat) (col kd width : Int) (empty : Bool) (html : Int) (K : Nat)
    (hn : zs.length ≤ 1048576) (hb : ∀ i, 0 ≤ byt zs i ∧ byt zs i ≤ 255) (h : (a = none ∧ zs.length = 0 ∧ cap = 0) ∨ ∃ x, a = some x ∧ ∀ i, i < zs.length → w.cell? (x.add i) = some (.int .u8 (byt zs i)))
    (hK : Fst zs p K) (hl : 0 ≤ col) (hh : col ≤ 268435456) (hw1 : 0 ≤ width) (hw2 : width ≤ 268435456) (hfn : p + K < zs.length) :
    Calls Try.prog 6 #[.slice a zs.length cap, .bool tb, .int .i64 p, .int .i64 col, .int .u8 kd, .int .i64 width, .bool empty, .int .i64 html] w fun e w' => e = .returned (.bool true) ∧ Below w.heap.size w w' := by
  have hat := atF_in zs tb (p + K) hfn
  by_cases e1 : kd = 1
  · subst e1
    by_cases hi : 3 < colTo zs p col K - col
    · have hw : WantIn zs p col 1 width empty html K false p col := by
        unfold WantIn
        exact .inr (.inr (.inr (.inr (.inr (.inr (.inr (.inr (.inr (.inr (.inr (.inl ⟨rfl, hi, rfl, rfl, rfl⟩)))))))))))
      exact law_in w a cap zs tb p col 1 width empty html K hn hb h hK hl hh hw1 hw2 false p col (fun a w c t b hg => goes_quote_far w c t b a zs tb p col width empty html K hg hi) hfn hw
    · cases hq : (byt zs (p + K) == 62)
      · have hw : WantIn zs p col 1 width empty html K false p col := by
          unfold WantIn
          exact .inr (.inr (.inr (.inr (.inr (.inr (.inr (.inr (.inr (.inr (.inr (.inr (.inl ⟨rfl, by omega, hq, rfl, rfl, rfl⟩))))))))))))
        exact law_in w a cap zs tb p col 1 width empty html K hn hb h hK hl hh hw1 hw2 false p col (fun a w c t b hg => goes_quote_no w c t b a zs tb p col width empty html K hg (by omega) (by rw [hat]; exact hq)) hfn hw
      · have ha : atF zs tb (p + K) = 62 := by rw [hat]; exact beq_iff_eq.1 hq
        by_cases hx : p + K + 1 < zs.length
        · have hat1 := atF_in zs tb (p + K + 1) hx
          by_cases hs : byt zs (p + K + 1) = 32 ∨ byt zs (p + K + 1) = 9
          · obtain ⟨k, hk⟩ := lands_ex zs (p + K + 1) (colTo zs p col K + 1) (colTo zs p col K + 1 + 1) (by omega) (by omega)
            have hw : WantIn zs p col 1 width empty html K true ((p + K + 1 + k : Nat) : Int) (colTo zs p col K + 1 + 1) := by
              unfold WantIn
              exact .inr (.inr (.inr (.inr (.inr (.inr (.inr (.inr (.inr (.inr (.inr (.inr (.inr (.inr (.inr (⟨rfl, by omega, hq, hx, hs, rfl, ⟨k, hk, rfl⟩, rfl⟩)))))))))))))))
            have e2 : colTo zs p col K + 2 = colTo zs p col K + 1 + 1 := by omega
            exact law_in w a cap zs tb p col 1 width empty html K hn hb h hK hl hh hw1 hw2 true ((p + K + 1 + k : Nat) : Int) (colTo zs p col K + 1 + 1) (fun a w c t b hg => by
              have := goes_quote_more w c t b a zs tb p col width empty html K hg (by omega) ha (by rw [hat1]; exact hs) k (by rw [e2]; exact hk)
              rw [e2] at this
              exact this) hfn hw
          · have hw : WantIn zs p col 1 width empty html K true ((p + K + 1 : Nat) : Int) (colTo zs p col K + 1) := by
              unfold WantIn
              exact .inr (.inr (.inr (.inr (.inr (.inr (.inr (.inr (.inr (.inr (.inr (.inr (.inr (.inr (.inl ⟨rfl, by omega, hq, hx, beq_eq_false_iff_ne.2 (by omega), beq_eq_false_iff_ne.2 (by omega), rfl, rfl, rfl⟩))))))))))))))
            exact law_in w a cap zs tb p col 1 width empty html K hn hb h hK hl hh hw1 hw2 true ((p + K + 1 : Nat) : Int) (colTo zs p col K + 1) (fun a w c t b hg => goes_quote_yes w c t b a zs tb p col width empty html K hg (by omega) ha (by rw [hat1]; omega) (by rw [hat1]; omega)) hfn hw
        · have hw : WantIn zs p col 1 width empty html K true ((p + K + 1 : Nat) : Int) (colTo zs p col K + 1) := by
            unfold WantIn
            exact .inr (.inr (.inr (.inr (.inr (.inr (.inr (.inr (.inr (.inr (.inr (.inr (.inr (.inl ⟨rfl, by omega, hq, by omega, rfl, rfl, rfl⟩)))))))))))))
          exact law_in w a cap zs tb p col 1 width empty html K hn hb h hK hl hh hw1 hw2 true ((p + K + 1 : Nat) : Int) (colTo zs p col K + 1) (fun a w c t b hg => goes_quote_yes w c t b a zs tb p col width empty html K hg (by omega) ha (by unfold atF; rw [if_neg hx]; cases tb <;> simp) (by unfold atF; rw [if_neg hx]; cases tb <;> simp)) hfn hw
  · by_cases e2 : kd = 2
    · subst e2
      by_cases hi : width ≤ colTo zs p col K - col
      · obtain ⟨k, hk⟩ := lands_ex zs p col (col + width) (by have := hK.le; omega) (by omega)
        have hw : WantIn zs p col 2 width empty html K true ((p + k : Nat) : Int) (col + width) := by
          unfold WantIn
          exact .inr (.inr (.inr (.inr (.inr (.inr (.inr (.inl ⟨rfl, hi, rfl, ⟨k, hk, rfl⟩, rfl⟩)))))))
        exact law_in w a cap zs tb p col 2 width empty html K hn hb h hK hl hh hw1 hw2 true ((p + k : Nat) : Int) (col + width) (fun a w c t b hg => goes_item_far w c t b a zs tb p col width empty html K hg hi hw1 k hk) hfn hw
      · cases hz : (byt zs (p + K) == 0)
        · have hw : WantIn zs p col 2 width empty html K false p col := by
            unfold WantIn
            exact .inr (.inr (.inr (.inr (.inr (.inr (.inr (.inr (.inr (.inr (.inl ⟨rfl, by omega, hz, rfl, rfl, rfl⟩))))))))))
          exact law_in w a cap zs tb p col 2 width empty html K hn hb h hK hl hh hw1 hw2 false p col (fun a w c t b hg => goes_item_no w c t b a zs tb p col width empty html K hg (by omega) (by rw [hat]; exact hz)) hfn hw
        · cases empty
          · have hw : WantIn zs p col 2 width false html K true ((p + K : Nat) : Int) (colTo zs p col K) := by
              unfold WantIn
              exact .inr (.inr (.inr (.inr (.inr (.inr (.inr (.inr (.inl ⟨rfl, by omega, hz, rfl, rfl, rfl, rfl⟩))))))))
            exact law_in w a cap zs tb p col 2 width false html K hn hb h hK hl hh hw1 hw2 true ((p + K : Nat) : Int) (colTo zs p col K) (fun a w c t b hg => goes_item_blank w c t b a zs tb p col width html K hg (by omega) (by rw [hat]; exact hz)) hfn hw
          · have hw : WantIn zs p col 2 width true html K false p col := by
              unfold WantIn
              exact .inr (.inr (.inr (.inr (.inr (.inr (.inr (.inr (.inr (.inl ⟨rfl, by omega, hz, rfl, rfl, rfl, rfl⟩)))))))))
            exact law_in w a cap zs tb p col 2 width true html K hn hb h hK hl hh hw1 hw2 false p col (fun a w c t b hg => goes_item_bare w c t b a zs tb p col width html K hg (by omega)) hfn hw
    · by_cases e3 : kd = 3
      · subst e3
        have hw : WantIn zs p col 3 width empty html K (!(byt zs (p + K) == 0)) p col := by
          unfold WantIn
          exact .inr (.inl ⟨rfl, rfl, rfl, rfl⟩)
        exact law_in w a cap zs tb p col 3 width empty html K hn hb h hK hl hh hw1 hw2 (!(byt zs (p + K) == 0)) p col (fun a w c t b hg => by rw [← hat]; exact goes_para w c t b a zs tb p col width empty html K hg) hfn hw
      · by_cases e5 : kd = 5
        · subst e5
          by_cases hi : 4 ≤ colTo zs p col K - col
          · obtain ⟨k, hk⟩ := lands_ex zs p col (col + 4) (by have := hK.le; omega) (by omega)
            have hw : WantIn zs p col 5 width empty html K true ((p + k : Nat) : Int) (col + 4) := by
              unfold WantIn
              exact .inr (.inr (.inr (.inr (.inl ⟨rfl, hi, rfl, ⟨k, hk, rfl⟩, rfl⟩))))
            exact law_in w a cap zs tb p col 5 width empty html K hn hb h hK hl hh hw1 hw2 true ((p + k : Nat) : Int) (col + 4) (fun a w c t b hg => goes_code_far w c t b a zs tb p col width empty html K hg hi k hk) hfn hw
          · cases hz : (byt zs (p + K) == 0)
            · have hw : WantIn zs p col 5 width empty html K false p col := by
                unfold WantIn
                exact .inr (.inr (.inr (.inr (.inr (.inr (.inl ⟨rfl, by omega, hz, rfl, rfl, rfl⟩))))))
              exact law_in w a cap zs tb p col 5 width empty html K hn hb h hK hl hh hw1 hw2 false p col (fun a w c t b hg => goes_code_no w c t b a zs tb p col width empty html K hg (by omega) (by rw [hat]; exact hz)) hfn hw
            · have hw : WantIn zs p col 5 width empty html K true ((p + K : Nat) : Int) (colTo zs p col K) := by
                unfold WantIn
                exact .inr (.inr (.inr (.inr (.inr (.inl ⟨rfl, by omega, hz, rfl, rfl, rfl⟩)))))
              exact law_in w a cap zs tb p col 5 width empty html K hn hb h hK hl hh hw1 hw2 true ((p + K : Nat) : Int) (colTo zs p col K) (fun a w c t b hg => goes_code_blank w c t b a zs tb p col width empty html K hg (by omega) (by rw [hat]; exact hz)) hfn hw
        · by_cases e6 : kd = 6
          · subst e6
            by_cases hx : html ≤ 5
            · have hw : WantIn zs p col 6 width empty html K true p col := by
                unfold WantIn
                exact .inr (.inr (.inl ⟨rfl, hx, rfl, rfl, rfl⟩))
              exact law_in w a cap zs tb p col 6 width empty html K hn hb h hK hl hh hw1 hw2 true p col (fun a w c t b hg => goes_html_le w c t b a zs tb p col width empty html K hg hx) hfn hw
            · have hw : WantIn zs p col 6 width empty html K (!(byt zs (p + K) == 0)) p col := by
                unfold WantIn
                exact .inr (.inr (.inr (.inl ⟨rfl, by omega, rfl, rfl, rfl⟩)))
              exact law_in w a cap zs tb p col 6 width empty html K hn hb h hK hl hh hw1 hw2 (!(byt zs (p + K) == 0)) p col (fun a w c t b hg => by rw [← hat]; exact goes_html_gt w c t b a zs tb p col width empty html K hg (by omega)) hfn hw
          · have h1 : (kd == 1) = false := beq_eq_false_iff_ne.2 e1
            have h2 : (kd == 2) = false := beq_eq_false_iff_ne.2 e2
            have h3 : (kd == 3) = false := beq_eq_false_iff_ne.2 e3
            have h5 : (kd == 5) = false := beq_eq_false_iff_ne.2 e5
            have h6 : (kd == 6) = false := beq_eq_false_iff_ne.2 e6
            have hw : WantIn zs p col kd width empty html K true p col := by
              unfold WantIn
              exact .inl ⟨h1, h2, h3, h5, h6, rfl, rfl, rfl⟩
            exact law_in w a cap zs tb p col kd width empty html K hn hb h hK hl hh hw1 hw2 true p col (fun a w c t b hg => goes_other w c t b a zs tb p col kd width empty html K hg h1 h2 h3 h5 h6) hfn hw

theorem all_T (w : World) (a : Option Addr) (cap : Nat) (zs : List Int) (p : Nat) (col kd width : Int) (empty : Bool) (html : Int) (K : Nat)
    (hn : zs.length ≤ 1048576) (hb : ∀ i, 0 ≤ byt zs i ∧ byt zs i ≤ 255) (h : (a = none ∧ zs.length = 0 ∧ cap = 0) ∨ ∃ x, a = some x ∧ ∀ i, i < zs.length → w.cell? (x.add i) = some (.int .u8 (byt zs i)))
    (hK : Fst zs p K) (hl : 0 ≤ col) (hh : col ≤ 268435456) (hw1 : 0 ≤ width) (hw2 : width ≤ 268435456) (hfn : p + K = zs.length) :
    Calls Try.prog 6 #[.slice a zs.length cap, .bool true, .int .i64 p, .int .i64 col, .int .u8 kd, .int .i64 width, .bool empty, .int .i64 html] w fun e w' => e = .returned (.bool true) ∧ Below w.heap.size w w' := by
  have hat : atF zs true (p + K) = 255 := by unfold atF; rw [if_neg (by omega)]; rfl
  by_cases e1 : kd = 1
  · subst e1
    by_cases hi : 3 < colTo zs p col K - col
    · have hw : WantT zs p col 1 width empty html K false p col := by
        unfold WantT
        exact .inr (.inr (.inr (.inr (.inr (.inr (.inr (.inr (.inl ⟨rfl, hi, rfl, rfl, rfl⟩))))))))
      exact law_T w a cap zs  p col 1 width empty html K hn hb h hK hl hh hw1 hw2 false p col (fun a w c t b hg => goes_quote_far w c t b a zs true p col width empty html K hg hi) hfn hw
    · have hw : WantT zs p col 1 width empty html K false p col := by
        unfold WantT
        exact .inr (.inr (.inr (.inr (.inr (.inr (.inr (.inr (.inr (⟨rfl, by omega, rfl, rfl, rfl⟩)))))))))
      exact law_T w a cap zs  p col 1 width empty html K hn hb h hK hl hh hw1 hw2 false p col (fun a w c t b hg => goes_quote_no w c t b a zs true p col width empty html K hg (by omega) (by rw [hat]; rfl)) hfn hw
  · by_cases e2 : kd = 2
    · subst e2
      by_cases hi : width ≤ colTo zs p col K - col
      · obtain ⟨k, hk⟩ := lands_ex zs p col (col + width) (by have := hK.le; omega) (by omega)
        have hw : WantT zs p col 2 width empty html K true ((p + k : Nat) : Int) (col + width) := by
          unfold WantT
          exact .inr (.inr (.inr (.inr (.inr (.inr (.inl ⟨rfl, hi, rfl, ⟨k, hk, rfl⟩, rfl⟩))))))
        exact law_T w a cap zs  p col 2 width empty html K hn hb h hK hl hh hw1 hw2 true ((p + k : Nat) : Int) (col + width) (fun a w c t b hg => goes_item_far w c t b a zs true p col width empty html K hg hi hw1 k hk) hfn hw
      · have hw : WantT zs p col 2 width empty html K false p col := by
          unfold WantT
          exact .inr (.inr (.inr (.inr (.inr (.inr (.inr (.inl ⟨rfl, by omega, rfl, rfl, rfl⟩)))))))
        exact law_T w a cap zs  p col 2 width empty html K hn hb h hK hl hh hw1 hw2 false p col (fun a w c t b hg => goes_item_no w c t b a zs true p col width empty html K hg (by omega) (by rw [hat]; rfl)) hfn hw
    · by_cases e3 : kd = 3
      · subst e3
        have hw : WantT zs p col 3 width empty html K true p col := by
          unfold WantT
          exact .inr (.inl ⟨rfl, rfl, rfl, rfl⟩)
        exact law_T w a cap zs  p col 3 width empty html K hn hb h hK hl hh hw1 hw2 true p col (fun a w c t b hg => by
          have := goes_para w c t b a zs true p col width empty html K hg
          rw [hat] at this
          exact this) hfn hw
      · by_cases e5 : kd = 5
        · subst e5
          by_cases hi : 4 ≤ colTo zs p col K - col
          · obtain ⟨k, hk⟩ := lands_ex zs p col (col + 4) (by have := hK.le; omega) (by omega)
            have hw : WantT zs p col 5 width empty html K true ((p + k : Nat) : Int) (col + 4) := by
              unfold WantT
              exact .inr (.inr (.inr (.inr (.inl ⟨rfl, hi, rfl, ⟨k, hk, rfl⟩, rfl⟩))))
            exact law_T w a cap zs  p col 5 width empty html K hn hb h hK hl hh hw1 hw2 true ((p + k : Nat) : Int) (col + 4) (fun a w c t b hg => goes_code_far w c t b a zs true p col width empty html K hg hi k hk) hfn hw
          · have hw : WantT zs p col 5 width empty html K false p col := by
              unfold WantT
              exact .inr (.inr (.inr (.inr (.inr (.inl ⟨rfl, by omega, rfl, rfl, rfl⟩)))))
            exact law_T w a cap zs  p col 5 width empty html K hn hb h hK hl hh hw1 hw2 false p col (fun a w c t b hg => goes_code_no w c t b a zs true p col width empty html K hg (by omega) (by rw [hat]; rfl)) hfn hw
        · by_cases e6 : kd = 6
          · subst e6
            by_cases hx : html ≤ 5
            · have hw : WantT zs p col 6 width empty html K true p col := by
                unfold WantT
                exact .inr (.inr (.inl ⟨rfl, hx, rfl, rfl, rfl⟩))
              exact law_T w a cap zs  p col 6 width empty html K hn hb h hK hl hh hw1 hw2 true p col (fun a w c t b hg => goes_html_le w c t b a zs true p col width empty html K hg hx) hfn hw
            · have hw : WantT zs p col 6 width empty html K true p col := by
                unfold WantT
                exact .inr (.inr (.inr (.inl ⟨rfl, by omega, rfl, rfl, rfl⟩)))
              exact law_T w a cap zs  p col 6 width empty html K hn hb h hK hl hh hw1 hw2 true p col (fun a w c t b hg => by
                have := goes_html_gt w c t b a zs true p col width empty html K hg (by omega)
                rw [hat] at this
                exact this) hfn hw
          · have h1 : (kd == 1) = false := beq_eq_false_iff_ne.2 e1
            have h2 : (kd == 2) = false := beq_eq_false_iff_ne.2 e2
            have h3 : (kd == 3) = false := beq_eq_false_iff_ne.2 e3
            have h5 : (kd == 5) = false := beq_eq_false_iff_ne.2 e5
            have h6 : (kd == 6) = false := beq_eq_false_iff_ne.2 e6
            have hw : WantT zs p col kd width empty html K true p col := by
              unfold WantT
              exact .inl ⟨h1, h2, h3, h5, h6, rfl, rfl, rfl⟩
            exact law_T w a cap zs  p col kd width empty html K hn hb h hK hl hh hw1 hw2 true p col (fun a w c t b hg => goes_other w c t b a zs true p col kd width empty html K hg h1 h2 h3 h5 h6) hfn hw

theorem all_F (w : World) (a : Option Addr) (cap : Nat) (zs : List Int) (p : Nat) (col kd width : Int) (empty : Bool) (html : Int) (K : Nat)
    (hn : zs.length ≤ 1048576) (hb : ∀ i, 0 ≤ byt zs i ∧ byt zs i ≤ 255) (h : (a = none ∧ zs.length = 0 ∧ cap = 0) ∨ ∃ x, a = some x ∧ ∀ i, i < zs.length → w.cell? (x.add i) = some (.int .u8 (byt zs i)))
    (hK : Fst zs p K) (hl : 0 ≤ col) (hh : col ≤ 268435456) (hw1 : 0 ≤ width) (hw2 : width ≤ 268435456) (hfn : p + K = zs.length) :
    Calls Try.prog 6 #[.slice a zs.length cap, .bool false, .int .i64 p, .int .i64 col, .int .u8 kd, .int .i64 width, .bool empty, .int .i64 html] w fun e w' => e = .returned (.bool true) ∧ Below w.heap.size w w' := by
  have hat : atF zs false (p + K) = 0 := by unfold atF; rw [if_neg (by omega)]; rfl
  by_cases e1 : kd = 1
  · subst e1
    by_cases hi : 3 < colTo zs p col K - col
    · have hw : WantF zs p col 1 width empty html K false p col := by
        unfold WantF
        exact .inr (.inr (.inr (.inr (.inr (.inr (.inr (.inr (.inr (.inl ⟨rfl, hi, rfl, rfl, rfl⟩)))))))))
      exact law_F w a cap zs  p col 1 width empty html K hn hb h hK hl hh hw1 hw2 false p col (fun a w c t b hg => goes_quote_far w c t b a zs false p col width empty html K hg hi) hfn hw
    · have hw : WantF zs p col 1 width empty html K false p col := by
        unfold WantF
        exact .inr (.inr (.inr (.inr (.inr (.inr (.inr (.inr (.inr (.inr (⟨rfl, by omega, rfl, rfl, rfl⟩))))))))))
      exact law_F w a cap zs  p col 1 width empty html K hn hb h hK hl hh hw1 hw2 false p col (fun a w c t b hg => goes_quote_no w c t b a zs false p col width empty html K hg (by omega) (by rw [hat]; rfl)) hfn hw
  · by_cases e2 : kd = 2
    · subst e2
      by_cases hi : width ≤ colTo zs p col K - col
      · obtain ⟨k, hk⟩ := lands_ex zs p col (col + width) (by have := hK.le; omega) (by omega)
        have hw : WantF zs p col 2 width empty html K true ((p + k : Nat) : Int) (col + width) := by
          unfold WantF
          exact .inr (.inr (.inr (.inr (.inr (.inr (.inl ⟨rfl, hi, rfl, ⟨k, hk, rfl⟩, rfl⟩))))))
        exact law_F w a cap zs  p col 2 width empty html K hn hb h hK hl hh hw1 hw2 true ((p + k : Nat) : Int) (col + width) (fun a w c t b hg => goes_item_far w c t b a zs false p col width empty html K hg hi hw1 k hk) hfn hw
      · cases empty
        · have hw : WantF zs p col 2 width false html K true ((p + K : Nat) : Int) (colTo zs p col K) := by
            unfold WantF
            exact .inr (.inr (.inr (.inr (.inr (.inr (.inr (.inl ⟨rfl, by omega, rfl, rfl, rfl, rfl⟩)))))))
          exact law_F w a cap zs  p col 2 width false html K hn hb h hK hl hh hw1 hw2 true ((p + K : Nat) : Int) (colTo zs p col K) (fun a w c t b hg => goes_item_blank w c t b a zs false p col width html K hg (by omega) (by rw [hat]; rfl)) hfn hw
        · have hw : WantF zs p col 2 width true html K false p col := by
            unfold WantF
            exact .inr (.inr (.inr (.inr (.inr (.inr (.inr (.inr (.inl ⟨rfl, by omega, rfl, rfl, rfl, rfl⟩))))))))
          exact law_F w a cap zs  p col 2 width true html K hn hb h hK hl hh hw1 hw2 false p col (fun a w c t b hg => goes_item_bare w c t b a zs false p col width html K hg (by omega)) hfn hw
    · by_cases e3 : kd = 3
      · subst e3
        have hw : WantF zs p col 3 width empty html K false p col := by
          unfold WantF
          exact .inr (.inl ⟨rfl, rfl, rfl, rfl⟩)
        exact law_F w a cap zs  p col 3 width empty html K hn hb h hK hl hh hw1 hw2 false p col (fun a w c t b hg => by
          have := goes_para w c t b a zs false p col width empty html K hg
          rw [hat] at this
          exact this) hfn hw
      · by_cases e5 : kd = 5
        · subst e5
          by_cases hi : 4 ≤ colTo zs p col K - col
          · obtain ⟨k, hk⟩ := lands_ex zs p col (col + 4) (by have := hK.le; omega) (by omega)
            have hw : WantF zs p col 5 width empty html K true ((p + k : Nat) : Int) (col + 4) := by
              unfold WantF
              exact .inr (.inr (.inr (.inr (.inl ⟨rfl, hi, rfl, ⟨k, hk, rfl⟩, rfl⟩))))
            exact law_F w a cap zs  p col 5 width empty html K hn hb h hK hl hh hw1 hw2 true ((p + k : Nat) : Int) (col + 4) (fun a w c t b hg => goes_code_far w c t b a zs false p col width empty html K hg hi k hk) hfn hw
          · have hw : WantF zs p col 5 width empty html K true ((p + K : Nat) : Int) (colTo zs p col K) := by
              unfold WantF
              exact .inr (.inr (.inr (.inr (.inr (.inl ⟨rfl, by omega, rfl, rfl, rfl⟩)))))
            exact law_F w a cap zs  p col 5 width empty html K hn hb h hK hl hh hw1 hw2 true ((p + K : Nat) : Int) (colTo zs p col K) (fun a w c t b hg => goes_code_blank w c t b a zs false p col width empty html K hg (by omega) (by rw [hat]; rfl)) hfn hw
        · by_cases e6 : kd = 6
          · subst e6
            by_cases hx : html ≤ 5
            · have hw : WantF zs p col 6 width empty html K true p col := by
                unfold WantF
                exact .inr (.inr (.inl ⟨rfl, hx, rfl, rfl, rfl⟩))
              exact law_F w a cap zs  p col 6 width empty html K hn hb h hK hl hh hw1 hw2 true p col (fun a w c t b hg => goes_html_le w c t b a zs false p col width empty html K hg hx) hfn hw
            · have hw : WantF zs p col 6 width empty html K false p col := by
                unfold WantF
                exact .inr (.inr (.inr (.inl ⟨rfl, by omega, rfl, rfl, rfl⟩)))
              exact law_F w a cap zs  p col 6 width empty html K hn hb h hK hl hh hw1 hw2 false p col (fun a w c t b hg => by
                have := goes_html_gt w c t b a zs false p col width empty html K hg (by omega)
                rw [hat] at this
                exact this) hfn hw
          · have h1 : (kd == 1) = false := beq_eq_false_iff_ne.2 e1
            have h2 : (kd == 2) = false := beq_eq_false_iff_ne.2 e2
            have h3 : (kd == 3) = false := beq_eq_false_iff_ne.2 e3
            have h5 : (kd == 5) = false := beq_eq_false_iff_ne.2 e5
            have h6 : (kd == 6) = false := beq_eq_false_iff_ne.2 e6
            have hw : WantF zs p col kd width empty html K true p col := by
              unfold WantF
              exact .inl ⟨h1, h2, h3, h5, h6, rfl, rfl, rfl⟩
            exact law_F w a cap zs  p col kd width empty html K hn hb h hK hl hh hw1 hw2 true p col (fun a w c t b hg => goes_other w c t b a zs false p col kd width empty html K hg h1 h2 h3 h5 h6) hfn hw

end Go.Proofs.Qxb6000088a
