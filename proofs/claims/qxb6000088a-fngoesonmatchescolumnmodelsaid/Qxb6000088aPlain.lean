/-
  THE PLAIN FUNCTIONS AND LAWS of seat b6000088a: no Go in sight.
  A line is a list of bytes 'zs'. 'colTo zs p c k': the column at which byte p + k begins, byte p beginning at column c, a tab going on to the next multiple of four.
-/
namespace Go.Proofs.Qxb6000088a.Plain

/-- The byte at place i (0 past the end). -/
def byt (zs : List Int) (i : Nat) : Int := zs[i]?.getD 0

def colTo (zs : List Int) (p : Nat) (c : Int) : Nat → Int
  | 0 => c
  | k + 1 => if byt zs (p + k) = 9 then colTo zs p c k + (4 - colTo zs p c k % 4) else colTo zs p c k + 1

theorem colTo_zero (zs : List Int) (p : Nat) (c : Int) : colTo zs p c 0 = c := rfl
theorem colTo_tab (zs : List Int) (p : Nat) (c : Int) (k : Nat) (h : byt zs (p + k) = 9) : colTo zs p c (k + 1) = colTo zs p c k + (4 - colTo zs p c k % 4) := by
  rw [colTo, if_pos h]
theorem colTo_not (zs : List Int) (p : Nat) (c : Int) (k : Nat) (h : byt zs (p + k) ≠ 9) : colTo zs p c (k + 1) = colTo zs p c k + 1 := by
  rw [colTo, if_neg h]

theorem colTo_lt (zs : List Int) (p : Nat) (c : Int) (k : Nat) : colTo zs p c k < colTo zs p c (k + 1) ∧ colTo zs p c (k + 1) ≤ colTo zs p c k + 4 := by
  rw [colTo]
  split <;> omega

theorem colTo_mono (zs : List Int) (p : Nat) (c : Int) (j k : Nat) (h : j ≤ k) : colTo zs p c j + (k - j : Nat) ≤ colTo zs p c k := by
  induction k with
  | zero => obtain rfl : j = 0 := by omega
            simp
  | succ k ih =>
    by_cases e : j = k + 1
    · subst e; simp
    · have := ih (by omega)
      have := (colTo_lt zs p c k).1
      omega

theorem colTo_bd (zs : List Int) (p : Nat) (c : Int) (k : Nat) : c ≤ colTo zs p c k ∧ colTo zs p c k ≤ c + 4 * k := by
  induction k with
  | zero => simp [colTo]
  | succ k ih =>
    have := colTo_lt zs p c k
    omega

/-- A byte is a space or a tab. -/
def ws (zs : List Int) (i : Nat) : Prop := byt zs i = 32 ∨ byt zs i = 9

/-- From byte p on just K bytes are spaces or tabs. -/
structure Fst (zs : List Int) (p K : Nat) : Prop where
  le : p + K ≤ zs.length
  all : ∀ j, j < K → ws zs (p + j)
  stop : p + K < zs.length → ¬ ws zs (p + K)

theorem fst_ex (zs : List Int) (p : Nat) (h : p ≤ zs.length) : ∃ K, Fst zs p K := by
  have go : ∀ m k, p + k + m = zs.length → (∀ j, j < k → ws zs (p + j)) → ∃ K, Fst zs p K := by
    intro m
    induction m with
    | zero => exact fun k hk ha => ⟨k, by omega, ha, fun h => absurd h (by omega)⟩
    | succ m ih =>
      intro k hk ha
      by_cases hw : byt zs (p + k) = 32 ∨ byt zs (p + k) = 9
      · refine ih (k + 1) (by omega) fun j hj => ?_
        by_cases e : j = k
        · subst e; exact hw
        · exact ha j (by omega)
      · exact ⟨k, by omega, ha, fun _ => hw⟩
  exact go (zs.length - p) 0 (by omega) fun j hj => absurd hj (by omega)

/-- Where column t lies: byte p + k holds it (or the line ends there). -/
structure Lands (zs : List Int) (p : Nat) (c t : Int) (k : Nat) : Prop where
  le : p + k ≤ zs.length
  low : colTo zs p c k ≤ t
  high : p + k < zs.length → t < colTo zs p c (k + 1)

theorem lands_one {zs : List Int} {p : Nat} {c t : Int} {k j : Nat} (h : Lands zs p c t k) (h' : Lands zs p c t j) : k = j := by
  obtain ⟨a1, a2, a3⟩ := h
  obtain ⟨b1, b2, b3⟩ := h'
  by_cases e : k < j
  · have := a3 (by omega)
    have := colTo_mono zs p c (k + 1) j (by omega)
    omega
  · by_cases e' : j < k
    · have := b3 (by omega)
      have := colTo_mono zs p c (j + 1) k (by omega)
      omega
    · omega

theorem lands_ex (zs : List Int) (p : Nat) (c t : Int) (h : p ≤ zs.length) (hc : c ≤ t) : ∃ k, Lands zs p c t k := by
  have go : ∀ m k, p + k + m = zs.length → colTo zs p c k ≤ t → ∃ k, Lands zs p c t k := by
    intro m
    induction m with
    | zero => exact fun k hk ha => ⟨k, by omega, ha, fun h => absurd h (by omega)⟩
    | succ m ih =>
      intro k hk ha
      by_cases hw : colTo zs p c (k + 1) ≤ t
      · exact ih (k + 1) (by omega) hw
      · exact ⟨k, by omega, ha, fun _ => by omega⟩
  exact go (zs.length - p) 0 (by omega) (by simpa [colTo] using hc)

/-- The byte that the cursor's 'at' answers. -/
def atF (zs : List Int) (tb : Bool) (i : Nat) : Int := if i < zs.length then byt zs i else if tb then 255 else 0

theorem atF_in (zs : List Int) (tb : Bool) (i : Nat) (h : i < zs.length) : atF zs tb i = byt zs i := by unfold atF; rw [if_pos h]
theorem atF_stop {zs : List Int} {p K : Nat} (tb : Bool) (h : Fst zs p K) : atF zs tb (p + K) ≠ 32 ∧ atF zs tb (p + K) ≠ 9 := by
  unfold atF
  by_cases e : p + K < zs.length
  · rw [if_pos e]
    have := h.stop e
    unfold ws at this
    omega
  · rw [if_neg e]
    cases tb <;> simp
theorem atF_bd (zs : List Int) (tb : Bool) (i : Nat) (h : ∀ i, 0 ≤ byt zs i ∧ byt zs i ≤ 255) : 0 ≤ atF zs tb i ∧ atF zs tb i ≤ 255 := by
  unfold atF
  by_cases e : i < zs.length
  · rw [if_pos e]; exact h i
  · rw [if_neg e]
    cases tb <;> simp
end Go.Proofs.Qxb6000088a.Plain
