/-
  THE WALK of the cursor's 'goesOn' (23): one theorem a way through it.
-/
import Derived.Test.Qxb6000088aNonspace
import Derived.Test.Qxb6000088aAdvance
import Derived.Deep.QuietTactic
import Derived.BigQuiet
import Derived.BigRegion
import Derived.Deep.RegionWith
namespace Go.Proofs.Qxb6000088a
open Go.RowKit Plain

/-- What goesOn is called with: the cursor at block c (at byte p, column col), the open block at block b. K: how many spaces and tabs lie ahead. -/
structure Goes (w : World) (c t b : Nat) (a : Option Addr) (zs : List Int) (tb : Bool) (p : Nat) (col : Int) (kd width : Int) (empty : Bool) (html : Int) (K : Nat) : Prop where
  cur : Cur w c t a zs tb p col 0 0 0 false
  away : b ≠ c
  kind : w.cell? ⟨b, 0, none⟩ = some (.int .u8 kd)
  wide : w.cell? ⟨b, 1, none⟩ = some (.int .i64 width)
  bare : w.cell? ⟨b, 2, none⟩ = some (.bool empty)
  html : w.cell? ⟨b, 5, none⟩ = some (.int .i64 html)
  fst : Fst zs p K
  low : 0 ≤ col
  high : col ≤ 268435456

/-- How goesOn ends: it answers 'ok'; the cursor stands at P, Q. -/
def Ends (w : World) (c t : Nat) (a : Option Addr) (zs : List Int) (tb : Bool) (p : Nat) (col : Int) (K : Nat) (ok : Bool) (P Q : Int) (e : Ending) (w' : World) : Prop :=
  e = .returned (.bool ok) ∧ Same c w w' ∧ w'.heap[c]? = some (curObj a zs.length t P Q ((p + K : Nat) : Int) (colTo zs p col K) (colTo zs p col K - col) (atF zs tb (p + K) == 0))

set_option maxRecDepth 100000 in
set_option maxHeartbeats 1000000 in
theorem goes_other (w : World) (c t b : Nat) (a : Option Addr) (zs : List Int) (tb : Bool) (p : Nat) (col kd width : Int) (empty : Bool) (html : Int) (K : Nat) (h : Goes w c t b a zs tb p col kd width empty html K) (h1 : (kd == 1) = false) (h2 : (kd == 2) = false) (h3 : (kd == 3) = false) (h5 : (kd == 5) = false) (h6 : (kd == 6) = false) :
    Calls Try.prog 23 #[.pointer (some ⟨c, 0, none⟩), .pointer (some ⟨b, 0, none⟩)] w (Ends w c t a zs tb p col K true p col) := by
  unfold Ends
  have hC := colTo_bd zs p col K
  have hl := h.low
  have hh := h.high
  have hf := h.fst.le
  have hsm := h.cur.line.small
  have H : Hid (Goes w c t b a zs tb p col kd width empty html K) := h
  clear h
  go_enter Try.func23, Try.ntmps23
  go_wp2_with fail
  refine (nonspace_any w c t a zs tb p col _ _ _ _ H.out.cur hl hh K H.out.fst).mono ?_
  rintro e w1 ⟨rfl, hs1, ho1⟩
  have HD : Hid (Cur w1 c t a zs tb p col ((p + K : Nat) : Int) (colTo zs p col K) (colTo zs p col K - col) (atF zs tb (p + K) == 0)) := H.out.cur.same hs1 ho1
  have HS : Hid (Same c w w1) := hs1
  have k0 := (hs1.cell ⟨b, 0, none⟩ H.out.away).trans H.out.kind
  have k1 := (hs1.cell ⟨b, 1, none⟩ H.out.away).trans H.out.wide
  have k2 := (hs1.cell ⟨b, 2, none⟩ H.out.away).trans H.out.bare
  have k5 := (hs1.cell ⟨b, 5, none⟩ H.out.away).trans H.out.html
  clear hs1 ho1
  obtain ⟨q0, q1, q2, q3, q4, q5, q6, q7, q8⟩ := HD.out.cells
  clear q0 q1 q2 q3 q4 q5 q6 q7 q8
  go_wp2
  go_ret
  exact ⟨rfl, HS.out, HD.out.obj⟩

set_option maxRecDepth 100000 in
set_option maxHeartbeats 1000000 in
theorem goes_para (w : World) (c t b : Nat) (a : Option Addr) (zs : List Int) (tb : Bool) (p : Nat) (col width : Int) (empty : Bool) (html : Int) (K : Nat) (h : Goes w c t b a zs tb p col 3 width empty html K) :
    Calls Try.prog 23 #[.pointer (some ⟨c, 0, none⟩), .pointer (some ⟨b, 0, none⟩)] w (Ends w c t a zs tb p col K (!(atF zs tb (p + K) == 0)) p col) := by
  unfold Ends
  have hC := colTo_bd zs p col K
  have hl := h.low
  have hh := h.high
  have hf := h.fst.le
  have hsm := h.cur.line.small
  have H : Hid (Goes w c t b a zs tb p col 3 width empty html K) := h
  clear h
  go_enter Try.func23, Try.ntmps23
  go_wp2_with fail
  refine (nonspace_any w c t a zs tb p col _ _ _ _ H.out.cur hl hh K H.out.fst).mono ?_
  rintro e w1 ⟨rfl, hs1, ho1⟩
  have HD : Hid (Cur w1 c t a zs tb p col ((p + K : Nat) : Int) (colTo zs p col K) (colTo zs p col K - col) (atF zs tb (p + K) == 0)) := H.out.cur.same hs1 ho1
  have HS : Hid (Same c w w1) := hs1
  have k0 := (hs1.cell ⟨b, 0, none⟩ H.out.away).trans H.out.kind
  have k1 := (hs1.cell ⟨b, 1, none⟩ H.out.away).trans H.out.wide
  have k2 := (hs1.cell ⟨b, 2, none⟩ H.out.away).trans H.out.bare
  have k5 := (hs1.cell ⟨b, 5, none⟩ H.out.away).trans H.out.html
  clear hs1 ho1
  obtain ⟨q0, q1, q2, q3, q4, q5, q6, q7, q8⟩ := HD.out.cells
  clear q0 q1 q2 q3 q4 q5 q6 q8
  go_wp2
  go_ret
  exact ⟨rfl, HS.out, HD.out.obj⟩

set_option maxRecDepth 100000 in
set_option maxHeartbeats 1000000 in
theorem goes_html_le (w : World) (c t b : Nat) (a : Option Addr) (zs : List Int) (tb : Bool) (p : Nat) (col width : Int) (empty : Bool) (html : Int) (K : Nat) (h : Goes w c t b a zs tb p col 6 width empty html K) (hx : html ≤ 5) :
    Calls Try.prog 23 #[.pointer (some ⟨c, 0, none⟩), .pointer (some ⟨b, 0, none⟩)] w (Ends w c t a zs tb p col K true p col) := by
  unfold Ends
  have hC := colTo_bd zs p col K
  have hl := h.low
  have hh := h.high
  have hf := h.fst.le
  have hsm := h.cur.line.small
  have H : Hid (Goes w c t b a zs tb p col 6 width empty html K) := h
  clear h
  go_enter Try.func23, Try.ntmps23
  go_wp2_with fail
  refine (nonspace_any w c t a zs tb p col _ _ _ _ H.out.cur hl hh K H.out.fst).mono ?_
  rintro e w1 ⟨rfl, hs1, ho1⟩
  have HD : Hid (Cur w1 c t a zs tb p col ((p + K : Nat) : Int) (colTo zs p col K) (colTo zs p col K - col) (atF zs tb (p + K) == 0)) := H.out.cur.same hs1 ho1
  have HS : Hid (Same c w w1) := hs1
  have k0 := (hs1.cell ⟨b, 0, none⟩ H.out.away).trans H.out.kind
  have k1 := (hs1.cell ⟨b, 1, none⟩ H.out.away).trans H.out.wide
  have k2 := (hs1.cell ⟨b, 2, none⟩ H.out.away).trans H.out.bare
  have k5 := (hs1.cell ⟨b, 5, none⟩ H.out.away).trans H.out.html
  clear hs1 ho1
  obtain ⟨q0, q1, q2, q3, q4, q5, q6, q7, q8⟩ := HD.out.cells
  clear q0 q1 q2 q3 q4 q5 q6 q7 q8
  go_wp2
  go_ret
  exact ⟨rfl, HS.out, HD.out.obj⟩

set_option maxRecDepth 100000 in
set_option maxHeartbeats 1000000 in
theorem goes_html_gt (w : World) (c t b : Nat) (a : Option Addr) (zs : List Int) (tb : Bool) (p : Nat) (col width : Int) (empty : Bool) (html : Int) (K : Nat) (h : Goes w c t b a zs tb p col 6 width empty html K) (hx : 5 < html) :
    Calls Try.prog 23 #[.pointer (some ⟨c, 0, none⟩), .pointer (some ⟨b, 0, none⟩)] w (Ends w c t a zs tb p col K (!(atF zs tb (p + K) == 0)) p col) := by
  unfold Ends
  have hC := colTo_bd zs p col K
  have hl := h.low
  have hh := h.high
  have hf := h.fst.le
  have hsm := h.cur.line.small
  have H : Hid (Goes w c t b a zs tb p col 6 width empty html K) := h
  clear h
  go_enter Try.func23, Try.ntmps23
  go_wp2_with fail
  refine (nonspace_any w c t a zs tb p col _ _ _ _ H.out.cur hl hh K H.out.fst).mono ?_
  rintro e w1 ⟨rfl, hs1, ho1⟩
  have HD : Hid (Cur w1 c t a zs tb p col ((p + K : Nat) : Int) (colTo zs p col K) (colTo zs p col K - col) (atF zs tb (p + K) == 0)) := H.out.cur.same hs1 ho1
  have HS : Hid (Same c w w1) := hs1
  have k0 := (hs1.cell ⟨b, 0, none⟩ H.out.away).trans H.out.kind
  have k1 := (hs1.cell ⟨b, 1, none⟩ H.out.away).trans H.out.wide
  have k2 := (hs1.cell ⟨b, 2, none⟩ H.out.away).trans H.out.bare
  have k5 := (hs1.cell ⟨b, 5, none⟩ H.out.away).trans H.out.html
  clear hs1 ho1
  obtain ⟨q0, q1, q2, q3, q4, q5, q6, q7, q8⟩ := HD.out.cells
  clear q0 q1 q2 q3 q4 q5 q6 q8
  have hx' : decide (html ≤ 5) = false := decide_eq_false (by omega)
  go_wp2
  go_ret
  exact ⟨rfl, HS.out, HD.out.obj⟩

set_option maxRecDepth 100000 in
set_option maxHeartbeats 1000000 in
theorem goes_code_no (w : World) (c t b : Nat) (a : Option Addr) (zs : List Int) (tb : Bool) (p : Nat) (col width : Int) (empty : Bool) (html : Int) (K : Nat) (h : Goes w c t b a zs tb p col 5 width empty html K) (hi : colTo zs p col K - col < 4) (hb : (atF zs tb (p + K) == 0) = false) :
    Calls Try.prog 23 #[.pointer (some ⟨c, 0, none⟩), .pointer (some ⟨b, 0, none⟩)] w (Ends w c t a zs tb p col K false p col) := by
  unfold Ends
  have hC := colTo_bd zs p col K
  have hl := h.low
  have hh := h.high
  have hf := h.fst.le
  have hsm := h.cur.line.small
  have H : Hid (Goes w c t b a zs tb p col 5 width empty html K) := h
  clear h
  go_enter Try.func23, Try.ntmps23
  go_wp2_with fail
  refine (nonspace_any w c t a zs tb p col _ _ _ _ H.out.cur hl hh K H.out.fst).mono ?_
  rintro e w1 ⟨rfl, hs1, ho1⟩
  have HD : Hid (Cur w1 c t a zs tb p col ((p + K : Nat) : Int) (colTo zs p col K) (colTo zs p col K - col) (atF zs tb (p + K) == 0)) := H.out.cur.same hs1 ho1
  have HS : Hid (Same c w w1) := hs1
  have k0 := (hs1.cell ⟨b, 0, none⟩ H.out.away).trans H.out.kind
  have k1 := (hs1.cell ⟨b, 1, none⟩ H.out.away).trans H.out.wide
  have k2 := (hs1.cell ⟨b, 2, none⟩ H.out.away).trans H.out.bare
  have k5 := (hs1.cell ⟨b, 5, none⟩ H.out.away).trans H.out.html
  clear hs1 ho1
  obtain ⟨q0, q1, q2, q3, q4, q5, q6, q7, q8⟩ := HD.out.cells
  clear q0 q1 q2 q3 q4 q5 q8
  go_wp2
  go_ret
  exact ⟨rfl, HS.out, HD.out.obj⟩

set_option maxRecDepth 100000 in
set_option maxHeartbeats 1000000 in
theorem goes_code_far (w : World) (c t b : Nat) (a : Option Addr) (zs : List Int) (tb : Bool) (p : Nat) (col width : Int) (empty : Bool) (html : Int) (K : Nat) (h : Goes w c t b a zs tb p col 5 width empty html K) (hi : 4 ≤ colTo zs p col K - col) (k : Nat) (hk : Lands zs p col (col + 4) k) :
    Calls Try.prog 23 #[.pointer (some ⟨c, 0, none⟩), .pointer (some ⟨b, 0, none⟩)] w (Ends w c t a zs tb p col K true ((p + k : Nat) : Int) (col + 4)) := by
  unfold Ends
  have hC := colTo_bd zs p col K
  have hl := h.low
  have hh := h.high
  have hf := h.fst.le
  have hsm := h.cur.line.small
  have H : Hid (Goes w c t b a zs tb p col 5 width empty html K) := h
  clear h
  go_enter Try.func23, Try.ntmps23
  go_wp2_with fail
  refine (nonspace_any w c t a zs tb p col _ _ _ _ H.out.cur hl hh K H.out.fst).mono ?_
  rintro e w1 ⟨rfl, hs1, ho1⟩
  have HD : Hid (Cur w1 c t a zs tb p col ((p + K : Nat) : Int) (colTo zs p col K) (colTo zs p col K - col) (atF zs tb (p + K) == 0)) := H.out.cur.same hs1 ho1
  have HS : Hid (Same c w w1) := hs1
  have k0 := (hs1.cell ⟨b, 0, none⟩ H.out.away).trans H.out.kind
  have k1 := (hs1.cell ⟨b, 1, none⟩ H.out.away).trans H.out.wide
  have k2 := (hs1.cell ⟨b, 2, none⟩ H.out.away).trans H.out.bare
  have k5 := (hs1.cell ⟨b, 5, none⟩ H.out.away).trans H.out.html
  clear hs1 ho1
  obtain ⟨q0, q1, q2, q3, q4, q5, q6, q7, q8⟩ := HD.out.cells
  clear q0 q1 q2 q3 q4 q5 q7 q8
  have HL : Hid (Lands zs p col (col + 4) k) := hk
  clear hk
  go_wp2_with fail
  refine (adv_cols w1 c t a zs tb p col _ _ _ _ HD.out hl (by omega) 4 (col + 4) (by omega) (by omega) (by omega) k K HL.out hf (by omega)).mono ?_
  rintro e w2 ⟨rfl, hs2, ho2⟩
  go_wp2
  go_ret
  exact ⟨rfl, HS.out.trans hs2, ho2⟩

set_option maxRecDepth 100000 in
set_option maxHeartbeats 1000000 in
theorem goes_code_blank (w : World) (c t b : Nat) (a : Option Addr) (zs : List Int) (tb : Bool) (p : Nat) (col width : Int) (empty : Bool) (html : Int) (K : Nat) (h : Goes w c t b a zs tb p col 5 width empty html K) (hi : colTo zs p col K - col < 4) (hb : (atF zs tb (p + K) == 0) = true) :
    Calls Try.prog 23 #[.pointer (some ⟨c, 0, none⟩), .pointer (some ⟨b, 0, none⟩)] w (Ends w c t a zs tb p col K true ((p + K : Nat) : Int) (colTo zs p col K)) := by
  unfold Ends
  have hC := colTo_bd zs p col K
  have hl := h.low
  have hh := h.high
  have hf := h.fst.le
  have hsm := h.cur.line.small
  have H : Hid (Goes w c t b a zs tb p col 5 width empty html K) := h
  clear h
  go_enter Try.func23, Try.ntmps23
  go_wp2_with fail
  refine (nonspace_any w c t a zs tb p col _ _ _ _ H.out.cur hl hh K H.out.fst).mono ?_
  rintro e w1 ⟨rfl, hs1, ho1⟩
  have HD : Hid (Cur w1 c t a zs tb p col ((p + K : Nat) : Int) (colTo zs p col K) (colTo zs p col K - col) (atF zs tb (p + K) == 0)) := H.out.cur.same hs1 ho1
  have HS : Hid (Same c w w1) := hs1
  have k0 := (hs1.cell ⟨b, 0, none⟩ H.out.away).trans H.out.kind
  have k1 := (hs1.cell ⟨b, 1, none⟩ H.out.away).trans H.out.wide
  have k2 := (hs1.cell ⟨b, 2, none⟩ H.out.away).trans H.out.bare
  have k5 := (hs1.cell ⟨b, 5, none⟩ H.out.away).trans H.out.html
  clear hs1 ho1
  obtain ⟨q0, q1, q2, q3, q4, q5, q6, q7, q8⟩ := HD.out.cells
  have HB : ∀ (q : Int) (w' : World), q ≤ K → (K : Int) ≤ q → w' = w1.drew → Hid (Calls Try.prog 39 #[.pointer (some ⟨c, 0, none⟩), .int .i64 q, .bool false] w' fun e w'' => e = .returned (.tuple #[]) ∧ Same c w w'' ∧
      w''.heap[c]? = some (curObj a zs.length t ((p + K : Nat) : Int) (colTo zs p col K) ((p + K : Nat) : Int) (colTo zs p col K) (colTo zs p col K - col) (atF zs tb (p + K) == 0))) := by
    rintro q w' a1 a2 rfl
    refine (adv_bytes w1.drew c t a zs tb p col _ _ _ _ (HD.out.same ((Same.refl c w1).drew) HD.out.obj) hl (by omega) K q a1 a2 hf).mono ?_
    rintro e w2 ⟨rfl, hs2, ho2⟩
    exact ⟨rfl, HS.out.drew.trans hs2, ho2⟩
  clear q0 q1 q3 q5 q8
  go_wp2
  go_region_with (go_at_call 39; refine (HB _ _ ?_ ?_ ?_).out.mono ?_; (rw [IntKind.wrap_i64]; omega); (rw [IntKind.wrap_i64]; omega); rfl; rintro e w2 ⟨rfl, hs2, ho2⟩)
  all_goals
    go_wp2
    go_ret
    exact ⟨rfl, hs2, ho2⟩

end Go.Proofs.Qxb6000088a
