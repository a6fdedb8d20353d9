/-
  THE WALK of the cursor's 'goesOn' (23), the ways of a list item and of a block quote.
-/
import Derived.Test.Qxb6000088aGoesOn
namespace Go.Proofs.Qxb6000088a
open Go.RowKit Plain

set_option maxRecDepth 100000 in
set_option maxHeartbeats 1000000 in
theorem goes_item_far (w : World) (c t b : Nat) (a : Option Addr) (zs : List Int) (tb : Bool) (p : Nat) (col width : Int) (empty : Bool) (html : Int) (K : Nat) (h : Goes w c t b a zs tb p col 2 width empty html K) (hi : width ≤ colTo zs p col K - col) (hw : 0 ≤ width) (k : Nat) (hk : Lands zs p col (col + width) k) :
    Calls Try.prog 23 #[.pointer (some ⟨c, 0, none⟩), .pointer (some ⟨b, 0, none⟩)] w (Ends w c t a zs tb p col K true ((p + k : Nat) : Int) (col + width)) := by
  unfold Ends
  have hC := colTo_bd zs p col K
  have hl := h.low
  have hh := h.high
  have hf := h.fst.le
  have hsm := h.cur.line.small
  have H : Hid (Goes w c t b a zs tb p col 2 width empty html K) := h
  clear h
  go_enter Try.func23, Try.ntmps23
  go_wp2_with fail
  refine (nonspace_any w c t a zs tb p col _ _ _ _ H.out.cur hl hh K H.out.fst).mono ?_
  rintro e w1 ⟨rfl, hs1, ho1⟩
  have HD : Hid (Cur w1 c t a zs tb p col ((p + K : Nat) : Int) (colTo zs p col K) (colTo zs p col K - col) (atF zs tb (p + K) == 0)) := H.out.cur.same hs1 ho1
  have HS : Hid (Same c w w1) := hs1
  have k0 := (hs1.cell ⟨b, 0, none⟩ H.out.away).trans H.out.kind
  have k1 := (hs1.cell ⟨b, 1, none⟩ H.out.away).trans H.out.wide
  have k2 := (hs1.cell ⟨b, 2, none⟩ H.out.away).trans H.out.bare
  have k5 := (hs1.cell ⟨b, 5, none⟩ H.out.away).trans H.out.html
  clear hs1 ho1
  obtain ⟨q0, q1, q2, q3, q4, q5, q6, q7, q8⟩ := HD.out.cells
  clear q0 q1 q2 q3 q4 q5 q7 q8
  have HL : Hid (Lands zs p col (col + width) k) := hk
  clear hk
  go_wp2
  go_quiet (fail)
  go_wp2_with fail
  refine (adv_cols (w1.drewN nq) c t a zs tb p col _ _ _ _ (HD.out.same ((Same.refl c w1).drewN nq) HD.out.obj) hl (by omega) width (col + width) (by omega) (by omega) hw k K HL.out hf (by omega)).mono ?_
  rintro e w2 ⟨rfl, hs2, ho2⟩
  go_wp2
  go_ret
  exact ⟨rfl, (HS.out.drewN nq).trans hs2, ho2⟩

set_option maxRecDepth 100000 in
set_option maxHeartbeats 1000000 in
theorem goes_item_blank (w : World) (c t b : Nat) (a : Option Addr) (zs : List Int) (tb : Bool) (p : Nat) (col width : Int) (html : Int) (K : Nat) (h : Goes w c t b a zs tb p col 2 width false html K) (hi : colTo zs p col K - col < width) (hb : (atF zs tb (p + K) == 0) = true) :
    Calls Try.prog 23 #[.pointer (some ⟨c, 0, none⟩), .pointer (some ⟨b, 0, none⟩)] w (Ends w c t a zs tb p col K true ((p + K : Nat) : Int) (colTo zs p col K)) := by
  unfold Ends
  have hC := colTo_bd zs p col K
  have hl := h.low
  have hh := h.high
  have hf := h.fst.le
  have hsm := h.cur.line.small
  have H : Hid (Goes w c t b a zs tb p col 2 width false html K) := h
  clear h
  go_enter Try.func23, Try.ntmps23
  go_wp2_with fail
  refine (nonspace_any w c t a zs tb p col _ _ _ _ H.out.cur hl hh K H.out.fst).mono ?_
  rintro e w1 ⟨rfl, hs1, ho1⟩
  have HD : Hid (Cur w1 c t a zs tb p col ((p + K : Nat) : Int) (colTo zs p col K) (colTo zs p col K - col) (atF zs tb (p + K) == 0)) := H.out.cur.same hs1 ho1
  have HS : Hid (Same c w w1) := hs1
  have k0 := (hs1.cell ⟨b, 0, none⟩ H.out.away).trans H.out.kind
  have k1 := (hs1.cell ⟨b, 1, none⟩ H.out.away).trans H.out.wide
  have k2 := (hs1.cell ⟨b, 2, none⟩ H.out.away).trans H.out.bare
  have k5 := (hs1.cell ⟨b, 5, none⟩ H.out.away).trans H.out.html
  clear hs1 ho1
  obtain ⟨q0, q1, q2, q3, q4, q5, q6, q7, q8⟩ := HD.out.cells
  have HB : ∀ (q : Int) (w' : World), q ≤ K → (K : Int) ≤ q → Same c w1 w' → w'.heap[c]? = w1.heap[c]? → Hid (Calls Try.prog 39 #[.pointer (some ⟨c, 0, none⟩), .int .i64 q, .bool false] w' fun e w'' => e = .returned (.tuple #[]) ∧ Same c w w'' ∧
      w''.heap[c]? = some (curObj a zs.length t ((p + K : Nat) : Int) (colTo zs p col K) ((p + K : Nat) : Int) (colTo zs p col K) (colTo zs p col K - col) (atF zs tb (p + K) == 0))) := by
    intro q w' a1 a2 a3 a4
    refine (adv_bytes w' c t a zs tb p col _ _ _ _ (HD.out.same a3 (a4.trans HD.out.obj)) hl (by omega) K q a1 a2 hf).mono ?_
    rintro e w2 ⟨rfl, hs2, ho2⟩
    exact ⟨rfl, (HS.out.trans a3).trans hs2, ho2⟩
  clear q0 q1 q3 q5 q8
  go_wp2
  go_quiet (fail)
  go_wp2
  go_region_with (go_at_call 39; refine (HB _ _ ?_ ?_ ?_ ?_).out.mono ?_; (rw [IntKind.wrap_i64]; omega); (rw [IntKind.wrap_i64]; omega); exact ((Same.refl c w1).drewN nq).drew; rfl; rintro e w2 ⟨rfl, hs2, ho2⟩)
  all_goals
    go_wp2
    go_ret
    exact ⟨rfl, hs2, ho2⟩

set_option maxRecDepth 100000 in
set_option maxHeartbeats 1000000 in
theorem goes_item_bare (w : World) (c t b : Nat) (a : Option Addr) (zs : List Int) (tb : Bool) (p : Nat) (col width : Int) (html : Int) (K : Nat) (h : Goes w c t b a zs tb p col 2 width true html K) (hi : colTo zs p col K - col < width) :
    Calls Try.prog 23 #[.pointer (some ⟨c, 0, none⟩), .pointer (some ⟨b, 0, none⟩)] w (Ends w c t a zs tb p col K false p col) := by
  unfold Ends
  have hC := colTo_bd zs p col K
  have hl := h.low
  have hh := h.high
  have hf := h.fst.le
  have hsm := h.cur.line.small
  have H : Hid (Goes w c t b a zs tb p col 2 width true html K) := h
  clear h
  go_enter Try.func23, Try.ntmps23
  go_wp2_with fail
  refine (nonspace_any w c t a zs tb p col _ _ _ _ H.out.cur hl hh K H.out.fst).mono ?_
  rintro e w1 ⟨rfl, hs1, ho1⟩
  have HD : Hid (Cur w1 c t a zs tb p col ((p + K : Nat) : Int) (colTo zs p col K) (colTo zs p col K - col) (atF zs tb (p + K) == 0)) := H.out.cur.same hs1 ho1
  have HS : Hid (Same c w w1) := hs1
  have k0 := (hs1.cell ⟨b, 0, none⟩ H.out.away).trans H.out.kind
  have k1 := (hs1.cell ⟨b, 1, none⟩ H.out.away).trans H.out.wide
  have k2 := (hs1.cell ⟨b, 2, none⟩ H.out.away).trans H.out.bare
  have k5 := (hs1.cell ⟨b, 5, none⟩ H.out.away).trans H.out.html
  clear hs1 ho1
  obtain ⟨q0, q1, q2, q3, q4, q5, q6, q7, q8⟩ := HD.out.cells
  clear q0 q1 q2 q3 q4 q5 q8
  cases hb : (atF zs tb (p + K) == 0)
  · rw [hb] at q7
    clear hb
    go_wp2
    go_quiet (fail)
    go_wp2
    go_ret
    exact ⟨rfl, HS.out.drewN nq, HD.out.obj⟩
  · rw [hb] at q7
    clear hb
    go_wp2
    go_quiet (fail)
    go_wp2
    go_ret
    exact ⟨rfl, HS.out.drewN nq, HD.out.obj⟩

set_option maxRecDepth 100000 in
set_option maxHeartbeats 1000000 in
theorem goes_item_no (w : World) (c t b : Nat) (a : Option Addr) (zs : List Int) (tb : Bool) (p : Nat) (col width : Int) (empty : Bool) (html : Int) (K : Nat) (h : Goes w c t b a zs tb p col 2 width empty html K) (hi : colTo zs p col K - col < width) (hb : (atF zs tb (p + K) == 0) = false) :
    Calls Try.prog 23 #[.pointer (some ⟨c, 0, none⟩), .pointer (some ⟨b, 0, none⟩)] w (Ends w c t a zs tb p col K false p col) := by
  unfold Ends
  have hC := colTo_bd zs p col K
  have hl := h.low
  have hh := h.high
  have hf := h.fst.le
  have hsm := h.cur.line.small
  have H : Hid (Goes w c t b a zs tb p col 2 width empty html K) := h
  clear h
  go_enter Try.func23, Try.ntmps23
  go_wp2_with fail
  refine (nonspace_any w c t a zs tb p col _ _ _ _ H.out.cur hl hh K H.out.fst).mono ?_
  rintro e w1 ⟨rfl, hs1, ho1⟩
  have HD : Hid (Cur w1 c t a zs tb p col ((p + K : Nat) : Int) (colTo zs p col K) (colTo zs p col K - col) (atF zs tb (p + K) == 0)) := H.out.cur.same hs1 ho1
  have HS : Hid (Same c w w1) := hs1
  have k0 := (hs1.cell ⟨b, 0, none⟩ H.out.away).trans H.out.kind
  have k1 := (hs1.cell ⟨b, 1, none⟩ H.out.away).trans H.out.wide
  have k2 := (hs1.cell ⟨b, 2, none⟩ H.out.away).trans H.out.bare
  have k5 := (hs1.cell ⟨b, 5, none⟩ H.out.away).trans H.out.html
  clear hs1 ho1
  obtain ⟨q0, q1, q2, q3, q4, q5, q6, q7, q8⟩ := HD.out.cells
  clear q0 q1 q2 q3 q4 q5 q8
  go_wp2
  go_quiet (fail)
  go_wp2
  go_ret
  exact ⟨rfl, HS.out.drewN nq, HD.out.obj⟩

set_option maxRecDepth 100000 in
set_option maxHeartbeats 1000000 in
theorem goes_quote_far (w : World) (c t b : Nat) (a : Option Addr) (zs : List Int) (tb : Bool) (p : Nat) (col width : Int) (empty : Bool) (html : Int) (K : Nat) (h : Goes w c t b a zs tb p col 1 width empty html K) (hi : 3 < colTo zs p col K - col) :
    Calls Try.prog 23 #[.pointer (some ⟨c, 0, none⟩), .pointer (some ⟨b, 0, none⟩)] w (Ends w c t a zs tb p col K false p col) := by
  unfold Ends
  have hC := colTo_bd zs p col K
  have hl := h.low
  have hh := h.high
  have hf := h.fst.le
  have hsm := h.cur.line.small
  have H : Hid (Goes w c t b a zs tb p col 1 width empty html K) := h
  clear h
  go_enter Try.func23, Try.ntmps23
  go_wp2_with fail
  refine (nonspace_any w c t a zs tb p col _ _ _ _ H.out.cur hl hh K H.out.fst).mono ?_
  rintro e w1 ⟨rfl, hs1, ho1⟩
  have HD : Hid (Cur w1 c t a zs tb p col ((p + K : Nat) : Int) (colTo zs p col K) (colTo zs p col K - col) (atF zs tb (p + K) == 0)) := H.out.cur.same hs1 ho1
  have HS : Hid (Same c w w1) := hs1
  have k0 := (hs1.cell ⟨b, 0, none⟩ H.out.away).trans H.out.kind
  have k1 := (hs1.cell ⟨b, 1, none⟩ H.out.away).trans H.out.wide
  have k2 := (hs1.cell ⟨b, 2, none⟩ H.out.away).trans H.out.bare
  have k5 := (hs1.cell ⟨b, 5, none⟩ H.out.away).trans H.out.html
  clear hs1 ho1
  obtain ⟨q0, q1, q2, q3, q4, q5, q6, q7, q8⟩ := HD.out.cells
  clear q0 q1 q2 q3 q4 q5 q7 q8
  go_wp2
  go_ret
  exact ⟨rfl, HS.out, HD.out.obj⟩

set_option maxRecDepth 100000 in
set_option maxHeartbeats 1000000 in
theorem goes_quote_no (w : World) (c t b : Nat) (a : Option Addr) (zs : List Int) (tb : Bool) (p : Nat) (col width : Int) (empty : Bool) (html : Int) (K : Nat) (h : Goes w c t b a zs tb p col 1 width empty html K) (hi : colTo zs p col K - col ≤ 3) (hn : (atF zs tb (p + K) == 62) = false) :
    Calls Try.prog 23 #[.pointer (some ⟨c, 0, none⟩), .pointer (some ⟨b, 0, none⟩)] w (Ends w c t a zs tb p col K false p col) := by
  unfold Ends
  have hC := colTo_bd zs p col K
  have hl := h.low
  have hh := h.high
  have hf := h.fst.le
  have hsm := h.cur.line.small
  have H : Hid (Goes w c t b a zs tb p col 1 width empty html K) := h
  clear h
  go_enter Try.func23, Try.ntmps23
  go_wp2_with fail
  refine (nonspace_any w c t a zs tb p col _ _ _ _ H.out.cur hl hh K H.out.fst).mono ?_
  rintro e w1 ⟨rfl, hs1, ho1⟩
  have HD : Hid (Cur w1 c t a zs tb p col ((p + K : Nat) : Int) (colTo zs p col K) (colTo zs p col K - col) (atF zs tb (p + K) == 0)) := H.out.cur.same hs1 ho1
  have HS : Hid (Same c w w1) := hs1
  have k0 := (hs1.cell ⟨b, 0, none⟩ H.out.away).trans H.out.kind
  have k1 := (hs1.cell ⟨b, 1, none⟩ H.out.away).trans H.out.wide
  have k2 := (hs1.cell ⟨b, 2, none⟩ H.out.away).trans H.out.bare
  have k5 := (hs1.cell ⟨b, 5, none⟩ H.out.away).trans H.out.html
  clear hs1 ho1
  obtain ⟨q0, q1, q2, q3, q4, q5, q6, q7, q8⟩ := HD.out.cells
  clear q0 q1 q2 q3 q5 q7 q8
  have hn' : (atF zs tb (p + K) != 62) = true := by rw [bne_iff_ne]; exact beq_eq_false_iff_ne.1 hn
  clear hn
  go_wp2_with fail
  refine (at_any w1 c t a zs tb _ _ _ _ _ _ HD.out (p + K)).mono ?_
  rintro e w2 ⟨rfl, rfl⟩
  go_wp2
  go_ret
  exact ⟨rfl, HS.out, HD.out.obj⟩

set_option maxRecDepth 100000 in
set_option maxHeartbeats 1000000 in
theorem goes_quote_yes (w : World) (c t b : Nat) (a : Option Addr) (zs : List Int) (tb : Bool) (p : Nat) (col width : Int) (empty : Bool) (html : Int) (K : Nat) (h : Goes w c t b a zs tb p col 1 width empty html K) (hi : colTo zs p col K - col ≤ 3) (ha : atF zs tb (p + K) = 62) (n1 : atF zs tb (p + K + 1) ≠ 32) (n2 : atF zs tb (p + K + 1) ≠ 9) :
    Calls Try.prog 23 #[.pointer (some ⟨c, 0, none⟩), .pointer (some ⟨b, 0, none⟩)] w (Ends w c t a zs tb p col K true ((p + K + 1 : Nat) : Int) (colTo zs p col K + 1)) := by
  unfold Ends
  have hC := colTo_bd zs p col K
  have hl := h.low
  have hh := h.high
  have hf := h.fst.le
  have hsm := h.cur.line.small
  have H : Hid (Goes w c t b a zs tb p col 1 width empty html K) := h
  clear h
  go_enter Try.func23, Try.ntmps23
  go_wp2_with fail
  refine (nonspace_any w c t a zs tb p col _ _ _ _ H.out.cur hl hh K H.out.fst).mono ?_
  rintro e w1 ⟨rfl, hs1, ho1⟩
  have HD : Hid (Cur w1 c t a zs tb p col ((p + K : Nat) : Int) (colTo zs p col K) (colTo zs p col K - col) (atF zs tb (p + K) == 0)) := H.out.cur.same hs1 ho1
  have HS : Hid (Same c w w1) := hs1
  have k0 := (hs1.cell ⟨b, 0, none⟩ H.out.away).trans H.out.kind
  have k1 := (hs1.cell ⟨b, 1, none⟩ H.out.away).trans H.out.wide
  have k2 := (hs1.cell ⟨b, 2, none⟩ H.out.away).trans H.out.bare
  have k5 := (hs1.cell ⟨b, 5, none⟩ H.out.away).trans H.out.html
  clear hs1 ho1
  obtain ⟨q0, q1, q2, q3, q4, q5, q6, q7, q8⟩ := HD.out.cells
  have HN : Hid (atF zs tb (p + K + 1) ≠ 32 ∧ atF zs tb (p + K + 1) ≠ 9) := ⟨n1, n2⟩
  clear n1 n2
  clear q0 q1 q2 q3 q5 q7 q8
  have hin : p + K < zs.length := by
    by_cases e : p + K < zs.length
    · exact e
    · exfalso; unfold atF at ha; rw [if_neg e] at ha; cases tb <;> simp at ha
  have hby : byt zs (p + K) = 62 := by rw [← ha, atF_in zs tb (p + K) hin]
  have hc1 : colTo zs p col (K + 1) = colTo zs p col K + 1 := colTo_not zs p col K (by omega)
  have HL : Hid (Lands zs p col (colTo zs p col K + 1) (K + 1)) := ⟨by omega, by rw [hc1]; omega, fun _ => by have := (colTo_lt zs p col (K + 1)).1; omega⟩
  have HC1 : Hid (colTo zs p col (K + 1) = colTo zs p col K + 1) := hc1
  have HA : Hid (atF zs tb (p + K) = 62) := ha
  clear ha hby hc1
  go_wp2_with fail
  refine (at_any w1 c t a zs tb _ _ _ _ _ _ HD.out (p + K)).mono ?_
  rintro e w2 ⟨rfl, rfl⟩
  rw [HA.out]
  go_wp2_with fail
  refine (adv_cols _ c t a zs tb p col _ _ _ _ HD.out hl (by omega) _ (colTo zs p col K + 1) (by omega) (by omega) (by omega) (K + 1) (K + 1) HL.out (by omega) (by rw [HC1.out]; omega)).mono ?_
  rintro e w3 ⟨rfl, hs3, ho3⟩
  have HS3 : Hid (Same c w w3) := HS.out.trans hs3
  have HD3 : Hid (Cur w3 c t a zs tb ((p + K + 1 : Nat) : Int) (colTo zs p col K + 1) ((p + K : Nat) : Int) (colTo zs p col K) (colTo zs p col K - col) (atF zs tb (p + K) == 0)) := HD.out.same hs3 ho3
  clear hs3 ho3 q4 q6 k0 k1 k2 k5 HD HS
  obtain ⟨q0, q1, q2, q3, q4, q5, q6, q7, q8⟩ := HD3.out.cells
  clear q0 q1 q3 q4 q5 q6 q7 q8
  go_wp2_with fail
  refine (at_any w3 c t a zs tb _ _ _ _ _ _ HD3.out (p + K + 1)).mono ?_
  rintro e w4 ⟨rfl, rfl⟩
  go_wp2_with fail
  refine (sot_no _ _ HN.out.1 HN.out.2).mono ?_
  rintro e w5 ⟨rfl, rfl⟩
  go_wp2
  go_ret
  exact ⟨rfl, HS3.out, HD3.out.obj⟩

set_option maxRecDepth 100000 in
set_option maxHeartbeats 1000000 in
theorem goes_quote_more (w : World) (c t b : Nat) (a : Option Addr) (zs : List Int) (tb : Bool) (p : Nat) (col width : Int) (empty : Bool) (html : Int) (K : Nat) (h : Goes w c t b a zs tb p col 1 width empty html K) (hi : colTo zs p col K - col ≤ 3) (ha : atF zs tb (p + K) = 62) (hw : atF zs tb (p + K + 1) = 32 ∨ atF zs tb (p + K + 1) = 9) (k : Nat) (hk : Lands zs (p + K + 1) (colTo zs p col K + 1) (colTo zs p col K + 2) k) :
    Calls Try.prog 23 #[.pointer (some ⟨c, 0, none⟩), .pointer (some ⟨b, 0, none⟩)] w (Ends w c t a zs tb p col K true ((p + K + 1 + k : Nat) : Int) (colTo zs p col K + 2)) := by
  unfold Ends
  have hC := colTo_bd zs p col K
  have hl := h.low
  have hh := h.high
  have hf := h.fst.le
  have hsm := h.cur.line.small
  have H : Hid (Goes w c t b a zs tb p col 1 width empty html K) := h
  clear h
  go_enter Try.func23, Try.ntmps23
  go_wp2_with fail
  refine (nonspace_any w c t a zs tb p col _ _ _ _ H.out.cur hl hh K H.out.fst).mono ?_
  rintro e w1 ⟨rfl, hs1, ho1⟩
  have HD : Hid (Cur w1 c t a zs tb p col ((p + K : Nat) : Int) (colTo zs p col K) (colTo zs p col K - col) (atF zs tb (p + K) == 0)) := H.out.cur.same hs1 ho1
  have HS : Hid (Same c w w1) := hs1
  have k0 := (hs1.cell ⟨b, 0, none⟩ H.out.away).trans H.out.kind
  have k1 := (hs1.cell ⟨b, 1, none⟩ H.out.away).trans H.out.wide
  have k2 := (hs1.cell ⟨b, 2, none⟩ H.out.away).trans H.out.bare
  have k5 := (hs1.cell ⟨b, 5, none⟩ H.out.away).trans H.out.html
  clear hs1 ho1
  obtain ⟨q0, q1, q2, q3, q4, q5, q6, q7, q8⟩ := HD.out.cells
  have hin1 : p + K + 1 < zs.length := by
    by_cases e : p + K + 1 < zs.length
    · exact e
    · exfalso; unfold atF at hw; rw [if_neg e] at hw; cases tb <;> simp at hw
  have HN : Hid (atF zs tb (p + K + 1) = 32 ∨ atF zs tb (p + K + 1) = 9) := hw
  have HLk : Hid (Lands zs (p + K + 1) (colTo zs p col K + 1) (colTo zs p col K + 2) k) := hk
  clear hw hk
  clear q0 q1 q2 q3 q5 q7 q8
  have hin : p + K < zs.length := by
    by_cases e : p + K < zs.length
    · exact e
    · exfalso; unfold atF at ha; rw [if_neg e] at ha; cases tb <;> simp at ha
  have hby : byt zs (p + K) = 62 := by rw [← ha, atF_in zs tb (p + K) hin]
  have hc1 : colTo zs p col (K + 1) = colTo zs p col K + 1 := colTo_not zs p col K (by omega)
  have HL : Hid (Lands zs p col (colTo zs p col K + 1) (K + 1)) := ⟨by omega, by rw [hc1]; omega, fun _ => by have := (colTo_lt zs p col (K + 1)).1; omega⟩
  have HC1 : Hid (colTo zs p col (K + 1) = colTo zs p col K + 1) := hc1
  have HA : Hid (atF zs tb (p + K) = 62) := ha
  clear ha hby hc1
  go_wp2_with fail
  refine (at_any w1 c t a zs tb _ _ _ _ _ _ HD.out (p + K)).mono ?_
  rintro e w2 ⟨rfl, rfl⟩
  rw [HA.out]
  go_wp2_with fail
  refine (adv_cols _ c t a zs tb p col _ _ _ _ HD.out hl (by omega) _ (colTo zs p col K + 1) (by omega) (by omega) (by omega) (K + 1) (K + 1) HL.out (by omega) (by rw [HC1.out]; omega)).mono ?_
  rintro e w3 ⟨rfl, hs3, ho3⟩
  have HS3 : Hid (Same c w w3) := HS.out.trans hs3
  have HD3 : Hid (Cur w3 c t a zs tb ((p + K + 1 : Nat) : Int) (colTo zs p col K + 1) ((p + K : Nat) : Int) (colTo zs p col K) (colTo zs p col K - col) (atF zs tb (p + K) == 0)) := HD.out.same hs3 ho3
  clear hs3 ho3 q4 q6 k0 k1 k2 k5 HD HS
  obtain ⟨q0, q1, q2, q3, q4, q5, q6, q7, q8⟩ := HD3.out.cells
  clear q0 q1 q3 q4 q5 q6 q7 q8
  go_wp2_with fail
  refine (at_any w3 c t a zs tb _ _ _ _ _ _ HD3.out (p + K + 1)).mono ?_
  rintro e w4 ⟨rfl, rfl⟩
  go_wp2_with fail
  refine (sot_yes _ _ HN.out).mono ?_
  rintro e w5 ⟨rfl, rfl⟩
  go_wp2_with fail
  refine (adv_cols _ c t a zs tb (p + K + 1) _ _ _ _ _ HD3.out (by omega) (by omega) 1 (colTo zs p col K + 2) (by omega) (by omega) (by omega) k 1 HLk.out (by omega) (by have := (colTo_lt zs (p + K + 1) (colTo zs p col K + 1) 0).1; simp only [colTo_zero, Nat.zero_add] at this; omega)).mono ?_
  rintro e w6 ⟨rfl, hs6, ho6⟩
  go_wp2
  go_ret
  exact ⟨rfl, HS3.out.trans hs6, ho6⟩

end Go.Proofs.Qxb6000088a
