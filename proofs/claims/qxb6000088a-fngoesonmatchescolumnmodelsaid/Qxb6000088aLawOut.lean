/-
  THE WALK of the law (6), where only spaces and tabs follow in the line.
-/
import Derived.Test.Qxb6000088aZZ
import Derived.Test.Qxb6000088aClone
namespace Go.Proofs.Qxb6000088a
open Go.RowKit Plain

def WantT (zs : List Int) (p : Nat) (col kd width : Int) (_empty : Bool) (html : Int) (K : Nat) (ok : Bool) (P Q : Int) : Prop :=
  ((kd == 1) = false ∧ (kd == 2) = false ∧ (kd == 3) = false ∧ (kd == 5) = false ∧ (kd == 6) = false ∧ ok = true ∧ P = p ∧ Q = col) ∨
  (kd = 3 ∧ ok = true ∧ P = p ∧ Q = col) ∨
  (kd = 6 ∧ html ≤ 5 ∧ ok = true ∧ P = p ∧ Q = col) ∨
  (kd = 6 ∧ 5 < html ∧ ok = true ∧ P = p ∧ Q = col) ∨
  (kd = 5 ∧ 4 ≤ colTo zs p col K - col ∧ ok = true ∧ (∃ k : Nat, Lands zs p col (col + 4) k ∧ P = ((p + k : Nat) : Int)) ∧ Q = col + 4) ∨
  (kd = 5 ∧ colTo zs p col K - col < 4 ∧ ok = false ∧ P = p ∧ Q = col) ∨
  (kd = 2 ∧ width ≤ colTo zs p col K - col ∧ ok = true ∧ (∃ k : Nat, Lands zs p col (col + width) k ∧ P = ((p + k : Nat) : Int)) ∧ Q = col + width) ∨
  (kd = 2 ∧ colTo zs p col K - col < width ∧ ok = false ∧ P = p ∧ Q = col) ∨
  (kd = 1 ∧ 3 < colTo zs p col K - col ∧ ok = false ∧ P = p ∧ Q = col) ∨
  (kd = 1 ∧ colTo zs p col K - col ≤ 3 ∧ ok = false ∧ P = p ∧ Q = col)

set_option maxRecDepth 100000 in
set_option maxHeartbeats 4000000 in
theorem law_T (w : World) (a : Option Addr) (cap : Nat) (zs : List Int) (p : Nat) (col kd width : Int) (empty : Bool) (html : Int) (K : Nat)
    (hn : zs.length ≤ 1048576) (hb : ∀ i, 0 ≤ byt zs i ∧ byt zs i ≤ 255) (h : (a = none ∧ zs.length = 0 ∧ cap = 0) ∨ ∃ x, a = some x ∧ ∀ i, i < zs.length → w.cell? (x.add i) = some (.int .u8 (byt zs i)))
    (hK : Fst zs p K) (hl : 0 ≤ col) (hh : col ≤ 268435456) (hw1 : 0 ≤ width) (hw2 : width ≤ 268435456) (ok : Bool) (P Q : Int)
    (HG : Hid (∀ a w c t b, Goes w c t b a zs true p col kd width empty html K → Calls Try.prog 23 #[.pointer (some ⟨c, 0, none⟩), .pointer (some ⟨b, 0, none⟩)] w (Ends w c t a zs true p col K ok P Q)))
    (hfn : p + K = zs.length) (HW : Hid (WantT zs p col kd width empty html K ok P Q)) :
    Calls Try.prog 6 #[.slice a zs.length cap, .bool true, .int .i64 p, .int .i64 col, .int .u8 kd, .int .i64 width, .bool empty, .int .i64 html] w fun e w' => e = .returned (.bool true) ∧ Below w.heap.size w w' := by
  have HCl : Hid (Calls Try.prog 9 #[.slice a zs.length cap] w fun e w' => ∃ a', e = .returned (.slice a' zs.length zs.length) ∧ Line w' a' zs ∧ (∀ x, a' = some x → x.block < w'.heap.size) ∧ Below w.heap.size w w') := clone_any w a zs.length cap zs hn rfl hb h
  have HK : Hid (Fst zs p K) := hK
  have hfl : zs.length ≤ p + K := by omega
  have hKl := hK.le
  clear hfn
  have HBy : Hid (∀ i, 0 ≤ byt zs i ∧ byt zs i ≤ 255) := hb
  clear h hb hK
  go_enter Try.func6, Try.ntmps6
  go_wp2_with fail
  refine (bytes_yes a zs.length cap _ _ _ _ _ _ _ _ hn).mono ?_
  rintro e w1 ⟨rfl, rfl⟩
  go_wp2_with fail
  refine (HCl.out).mono ?_
  rintro e w2 ⟨a', rfl, hL, haw, hbl⟩
  have HL : Hid (Line w2 a' zs) := hL
  have HA : Hid (∀ x, a' = some x → x.block < w2.heap.size) := haw
  have HB : Hid (Below w1.heap.size w1 w2) := hbl
  clear hL haw hbl HCl
  go_wp2_with fail
  refine (zz_any w2 a' zs true p col kd width empty html K HL.out HA.out HK.out hl hh ok P Q (HG.out a')).mono ?_
  rintro e w3 ⟨rfl, hb3⟩
  have HL3 : Hid (Line w3 a' zs) := HL.out.below HA.out hb3
  have HB3 : Hid (Below w1.heap.size w1 w3) := HB.out.trans (hb3.mono HB.out.size)
  clear hb3 HL HA HB HG
  rw [show atF zs true (p + K) = 255 by unfold atF; rw [if_neg (by omega)]; rfl]
  go_wp2
  go_loop [24] (fun f => ∃ j : Nat, j ≤ K ∧ f = .int .i64 ((p + j : Nat) : Int)) (fun f => (p + K - intOf f).toNat)
  case atStart => exact ⟨0, by omega, rfl⟩
  case round =>
    obtain ⟨j, hj, rfl⟩ := hrel
    by_cases hlt : j < K
    · obtain ⟨lb, rfl, hcell⟩ := HL3.out.cell (p + j) (by omega)
      rcases HK.out.all j hlt with e | e
      · rw [e] at hcell
        clear e
        go_wp2
        refine ⟨⟨j + 1, by omega, by go_num⟩, ?_⟩
        simp [intOf]; omega
      · rw [e] at hcell
        clear e
        go_wp2
        refine ⟨⟨j + 1, by omega, by go_num⟩, ?_⟩
        simp [intOf]; omega
    · obtain rfl : j = K := by omega
      go_wp2_with fail
      refine (colAt_any zs a' p (p + j) col _ HL3.out (by omega) (by omega) hl (by omega)).mono ?_
      rintro e w4 ⟨rfl, rfl⟩
      rw [show p + j - p = j by omega]
      have hC := colTo_bd zs p col j
      rcases HW.out with ⟨h1, h2, h3, h5, h6, rfl, rfl, rfl⟩ | ⟨rfl, rfl, rfl, rfl⟩ | ⟨rfl, hx, rfl, rfl, rfl⟩ | ⟨rfl, hx, rfl, rfl, rfl⟩ | ⟨rfl, hx, rfl, ⟨k, hk, rfl⟩, rfl⟩ | ⟨rfl, hx, rfl, rfl, rfl⟩ | ⟨rfl, hx, rfl, ⟨k, hk, rfl⟩, rfl⟩ | ⟨rfl, hx, rfl, rfl, rfl⟩ | ⟨rfl, hi, rfl, rfl, rfl⟩ | ⟨rfl, hi, rfl, rfl, rfl⟩
      · clear HW
        go_wp2
        go_ret
        exact ⟨rfl, HB3.out⟩
      · clear HW
        go_wp2
        go_ret
        exact ⟨rfl, HB3.out⟩
      · clear HW
        go_wp2
        go_ret
        exact ⟨rfl, HB3.out⟩
      · clear HW
        have hx' : decide (html ≤ 5) = false := decide_eq_false (by omega)
        go_wp2
        go_ret
        exact ⟨rfl, HB3.out⟩
      · have HLk : Hid (Lands zs p col (col + 4) k) := hk
        clear HW hk
        go_wp2_with fail
        refine (land_any zs a' p k j col (col + 4) _ HL3.out hl (by omega) HLk.out (by omega) (by omega)).mono ?_
        rintro e w5 ⟨rfl, rfl⟩
        go_wp2
        go_ret
        exact ⟨rfl, HB3.out⟩
      · clear HW
        go_wp2
        go_ret
        exact ⟨rfl, HB3.out⟩
      · have HLk : Hid (Lands zs p col (col + width) k) := hk
        clear HW hk
        go_wp2_with fail
        refine (land_any zs a' p k j col (col + width) _ HL3.out hl (by omega) HLk.out (by omega) (by omega)).mono ?_
        rintro e w5 ⟨rfl, rfl⟩
        go_wp2
        go_ret
        exact ⟨rfl, HB3.out⟩
      · clear HW
        go_wp2
        go_ret
        exact ⟨rfl, HB3.out⟩
      · clear HW
        go_wp2
        go_ret
        exact ⟨rfl, HB3.out⟩
      · clear HW
        go_wp2
        go_ret
        exact ⟨rfl, HB3.out⟩

def WantF (zs : List Int) (p : Nat) (col kd width : Int) (empty : Bool) (html : Int) (K : Nat) (ok : Bool) (P Q : Int) : Prop :=
  ((kd == 1) = false ∧ (kd == 2) = false ∧ (kd == 3) = false ∧ (kd == 5) = false ∧ (kd == 6) = false ∧ ok = true ∧ P = p ∧ Q = col) ∨
  (kd = 3 ∧ ok = false ∧ P = p ∧ Q = col) ∨
  (kd = 6 ∧ html ≤ 5 ∧ ok = true ∧ P = p ∧ Q = col) ∨
  (kd = 6 ∧ 5 < html ∧ ok = false ∧ P = p ∧ Q = col) ∨
  (kd = 5 ∧ 4 ≤ colTo zs p col K - col ∧ ok = true ∧ (∃ k : Nat, Lands zs p col (col + 4) k ∧ P = ((p + k : Nat) : Int)) ∧ Q = col + 4) ∨
  (kd = 5 ∧ colTo zs p col K - col < 4 ∧ ok = true ∧ P = ((p + K : Nat) : Int) ∧ Q = colTo zs p col K) ∨
  (kd = 2 ∧ width ≤ colTo zs p col K - col ∧ ok = true ∧ (∃ k : Nat, Lands zs p col (col + width) k ∧ P = ((p + k : Nat) : Int)) ∧ Q = col + width) ∨
  (kd = 2 ∧ colTo zs p col K - col < width ∧ empty = false ∧ ok = true ∧ P = ((p + K : Nat) : Int) ∧ Q = colTo zs p col K) ∨
  (kd = 2 ∧ colTo zs p col K - col < width ∧ empty = true ∧ ok = false ∧ P = p ∧ Q = col) ∨
  (kd = 1 ∧ 3 < colTo zs p col K - col ∧ ok = false ∧ P = p ∧ Q = col) ∨
  (kd = 1 ∧ colTo zs p col K - col ≤ 3 ∧ ok = false ∧ P = p ∧ Q = col)

set_option maxRecDepth 100000 in
set_option maxHeartbeats 4000000 in
theorem law_F (w : World) (a : Option Addr) (cap : Nat) (zs : List Int) (p : Nat) (col kd width : Int) (empty : Bool) (html : Int) (K : Nat)
    (hn : zs.length ≤ 1048576) (hb : ∀ i, 0 ≤ byt zs i ∧ byt zs i ≤ 255) (h : (a = none ∧ zs.length = 0 ∧ cap = 0) ∨ ∃ x, a = some x ∧ ∀ i, i < zs.length → w.cell? (x.add i) = some (.int .u8 (byt zs i)))
    (hK : Fst zs p K) (hl : 0 ≤ col) (hh : col ≤ 268435456) (hw1 : 0 ≤ width) (hw2 : width ≤ 268435456) (ok : Bool) (P Q : Int)
    (HG : Hid (∀ a w c t b, Goes w c t b a zs false p col kd width empty html K → Calls Try.prog 23 #[.pointer (some ⟨c, 0, none⟩), .pointer (some ⟨b, 0, none⟩)] w (Ends w c t a zs false p col K ok P Q)))
    (hfn : p + K = zs.length) (HW : Hid (WantF zs p col kd width empty html K ok P Q)) :
    Calls Try.prog 6 #[.slice a zs.length cap, .bool false, .int .i64 p, .int .i64 col, .int .u8 kd, .int .i64 width, .bool empty, .int .i64 html] w fun e w' => e = .returned (.bool true) ∧ Below w.heap.size w w' := by
  have HCl : Hid (Calls Try.prog 9 #[.slice a zs.length cap] w fun e w' => ∃ a', e = .returned (.slice a' zs.length zs.length) ∧ Line w' a' zs ∧ (∀ x, a' = some x → x.block < w'.heap.size) ∧ Below w.heap.size w w') := clone_any w a zs.length cap zs hn rfl hb h
  have HK : Hid (Fst zs p K) := hK
  have hfl : zs.length ≤ p + K := by omega
  have hKl := hK.le
  clear hfn
  have HBy : Hid (∀ i, 0 ≤ byt zs i ∧ byt zs i ≤ 255) := hb
  clear h hb hK
  go_enter Try.func6, Try.ntmps6
  go_wp2_with fail
  refine (bytes_yes a zs.length cap _ _ _ _ _ _ _ _ hn).mono ?_
  rintro e w1 ⟨rfl, rfl⟩
  go_wp2_with fail
  refine (HCl.out).mono ?_
  rintro e w2 ⟨a', rfl, hL, haw, hbl⟩
  have HL : Hid (Line w2 a' zs) := hL
  have HA : Hid (∀ x, a' = some x → x.block < w2.heap.size) := haw
  have HB : Hid (Below w1.heap.size w1 w2) := hbl
  clear hL haw hbl HCl
  go_wp2_with fail
  refine (zz_any w2 a' zs false p col kd width empty html K HL.out HA.out HK.out hl hh ok P Q (HG.out a')).mono ?_
  rintro e w3 ⟨rfl, hb3⟩
  have HL3 : Hid (Line w3 a' zs) := HL.out.below HA.out hb3
  have HB3 : Hid (Below w1.heap.size w1 w3) := HB.out.trans (hb3.mono HB.out.size)
  clear hb3 HL HA HB HG
  rw [show atF zs false (p + K) = 0 by unfold atF; rw [if_neg (by omega)]; rfl]
  go_wp2
  go_loop [24] (fun f => ∃ j : Nat, j ≤ K ∧ f = .int .i64 ((p + j : Nat) : Int)) (fun f => (p + K - intOf f).toNat)
  case atStart => exact ⟨0, by omega, rfl⟩
  case round =>
    obtain ⟨j, hj, rfl⟩ := hrel
    by_cases hlt : j < K
    · obtain ⟨lb, rfl, hcell⟩ := HL3.out.cell (p + j) (by omega)
      rcases HK.out.all j hlt with e | e
      · rw [e] at hcell
        clear e
        go_wp2
        refine ⟨⟨j + 1, by omega, by go_num⟩, ?_⟩
        simp [intOf]; omega
      · rw [e] at hcell
        clear e
        go_wp2
        refine ⟨⟨j + 1, by omega, by go_num⟩, ?_⟩
        simp [intOf]; omega
    · obtain rfl : j = K := by omega
      go_wp2_with fail
      refine (colAt_any zs a' p (p + j) col _ HL3.out (by omega) (by omega) hl (by omega)).mono ?_
      rintro e w4 ⟨rfl, rfl⟩
      rw [show p + j - p = j by omega]
      have hC := colTo_bd zs p col j
      rcases HW.out with ⟨h1, h2, h3, h5, h6, rfl, rfl, rfl⟩ | ⟨rfl, rfl, rfl, rfl⟩ | ⟨rfl, hx, rfl, rfl, rfl⟩ | ⟨rfl, hx, rfl, rfl, rfl⟩ | ⟨rfl, hx, rfl, ⟨k, hk, rfl⟩, rfl⟩ | ⟨rfl, hx, rfl, rfl, rfl⟩ | ⟨rfl, hx, rfl, ⟨k, hk, rfl⟩, rfl⟩ | ⟨rfl, hx, rfl, rfl, rfl, rfl⟩ | ⟨rfl, hx, rfl, rfl, rfl, rfl⟩ | ⟨rfl, hi, rfl, rfl, rfl⟩ | ⟨rfl, hi, rfl, rfl, rfl⟩
      · clear HW
        go_wp2
        go_ret
        exact ⟨rfl, HB3.out⟩
      · clear HW
        go_wp2
        go_ret
        exact ⟨rfl, HB3.out⟩
      · clear HW
        go_wp2
        go_ret
        exact ⟨rfl, HB3.out⟩
      · clear HW
        have hx' : decide (html ≤ 5) = false := decide_eq_false (by omega)
        go_wp2
        go_ret
        exact ⟨rfl, HB3.out⟩
      · have HLk : Hid (Lands zs p col (col + 4) k) := hk
        clear HW hk
        go_wp2_with fail
        refine (land_any zs a' p k j col (col + 4) _ HL3.out hl (by omega) HLk.out (by omega) (by omega)).mono ?_
        rintro e w5 ⟨rfl, rfl⟩
        go_wp2
        go_ret
        exact ⟨rfl, HB3.out⟩
      · clear HW
        go_wp2
        go_ret
        exact ⟨rfl, HB3.out⟩
      · have HLk : Hid (Lands zs p col (col + width) k) := hk
        clear HW hk
        go_wp2_with fail
        refine (land_any zs a' p k j col (col + width) _ HL3.out hl (by omega) HLk.out (by omega) (by omega)).mono ?_
        rintro e w5 ⟨rfl, rfl⟩
        go_wp2
        go_ret
        exact ⟨rfl, HB3.out⟩
      · clear HW
        go_wp2
        go_ret
        exact ⟨rfl, HB3.out⟩
      · clear HW
        go_wp2
        go_ret
        exact ⟨rfl, HB3.out⟩
      · clear HW
        go_wp2
        go_ret
        exact ⟨rfl, HB3.out⟩
      · clear HW
        go_wp2
        go_ret
        exact ⟨rfl, HB3.out⟩

end Go.Proofs.Qxb6000088a
