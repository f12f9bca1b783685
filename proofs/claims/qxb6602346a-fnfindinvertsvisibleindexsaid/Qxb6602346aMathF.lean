/-
  PLAIN MATHEMATICS OF THE LAYOUT AS PIECES: kept, deleted, kept, .. ; no Go in sight.
-/
import Derived.Test.Qxb6602346aMathV
namespace Go.Proofs.Qxb6602346a.Pl
set_option linter.unusedVariables false

/-- Where the k-th kept piece begins. -/
def prev (E : Nat → Int) : Nat → Int
  | 0 => 0
  | k + 1 => E k

def pst (S E : Nat → Int) (j : Nat) : Int := if j % 2 = 0 then prev E (j / 2) else S (j / 2)
def pen (n : Nat) (len : Int) (S E : Nat → Int) (j : Nat) : Int := if j % 2 = 0 then (if j / 2 < n then S (j / 2) else len) else E (j / 2)
def pdl (j : Nat) : Bool := decide (j % 2 = 1)
/-- The index that is left ahead of piece j. -/
def pidx (S E : Nat → Int) (v : Int) (j : Nat) : Int := v - prev E ((j + 1) / 2) + sz S E ((j + 1) / 2)

theorem pst_even (S E : Nat → Int) (i : Nat) : pst S E (2 * i) = prev E i := by
  unfold pst; rw [if_pos (by omega), show 2 * i / 2 = i by omega]
theorem pst_odd (S E : Nat → Int) (i : Nat) : pst S E (2 * i + 1) = S i := by
  unfold pst; rw [if_neg (by omega), show (2 * i + 1) / 2 = i by omega]
theorem pen_even (n : Nat) (len : Int) (S E : Nat → Int) (i : Nat) (h : i < n) : pen n len S E (2 * i) = S i := by
  unfold pen; rw [if_pos (by omega), if_pos (by omega), show 2 * i / 2 = i by omega]
theorem pen_last (n : Nat) (len : Int) (S E : Nat → Int) : pen n len S E (2 * n) = len := by
  unfold pen; rw [if_pos (by omega), if_neg (by omega)]
theorem pen_odd (n : Nat) (len : Int) (S E : Nat → Int) (i : Nat) : pen n len S E (2 * i + 1) = E i := by
  unfold pen; rw [if_neg (by omega), show (2 * i + 1) / 2 = i by omega]
theorem pdl_even (i : Nat) : pdl (2 * i) = false := by unfold pdl; rw [decide_eq_false]; omega
theorem pdl_odd (i : Nat) : pdl (2 * i + 1) = true := by unfold pdl; rw [decide_eq_true]; omega
theorem pidx_even (S E : Nat → Int) (v : Int) (i : Nat) : pidx S E v (2 * i) = v - prev E i + sz S E i := by
  unfold pidx; rw [show (2 * i + 1) / 2 = i by omega]
theorem pidx_odd (S E : Nat → Int) (v : Int) (i : Nat) : pidx S E v (2 * i + 1) = v - prev E (i + 1) + sz S E (i + 1) := by
  unfold pidx; rw [show (2 * i + 1 + 1) / 2 = i + 1 by omega]
theorem pidx_zero (S E : Nat → Int) (v : Int) : pidx S E v 0 = v := by
  show v - 0 + 0 = v
  omega

theorem even_or (k : Nat) : (∃ i, k = 2 * i) ∨ ∃ i, k = 2 * i + 1 := by
  by_cases h : k % 2 = 0
  · exact .inl ⟨k / 2, by omega⟩
  · exact .inr ⟨k / 2, by omega⟩

variable {n c : Nat} {S E : Nat → Int} {x len : Int}

structure Lay (n : Nat) (S E : Nat → Int) (x len : Int) (c : Nat) : Prop where
  dom : Dom n S E
  kept : Kept n S E x
  cut : CutAt n S x c
  x0 : 0 ≤ x
  xl : x < len
  lm : len ≤ 9223372036854775807
  last : 0 < n → E (n - 1) ≤ len

theorem Lay.prev_le (h : Lay n S E x len c) (i : Nat) (hi : i ≤ c) : 0 ≤ prev E i ∧ prev E i ≤ x := by
  cases i with
  | zero => exact ⟨Int.le_refl _, h.x0⟩
  | succ i =>
    have h1 := h.cut.2.1 i (by omega)
    have hc := h.cut.1
    have h2 := h.kept i (by omega) h1
    have h3 := dom_nonneg h.dom (show i < n by omega)
    have h4 := (h.dom.2 i (by omega)).1
    show 0 ≤ E i ∧ E i ≤ x
    omega

theorem Lay.prev_S (h : Lay n S E x len c) (i : Nat) (hi : i < n) : prev E i ≤ S i := by
  cases i with
  | zero => exact dom_nonneg h.dom hi
  | succ i => exact (h.dom.2 i (by omega)).2 hi

theorem Lay.S_len (h : Lay n S E x len c) (i : Nat) (hi : i < n) : S i ≤ len := by
  have h1 := dom_le h.dom (show i ≤ n - 1 by omega) (by omega)
  have h2 := (h.dom.2 (n - 1) (by omega)).1
  have h3 := h.last (by omega)
  omega

/-- S i + what is deleted from i to c lies below x. -/
theorem Lay.far (h : Lay n S E x len c) (i : Nat) (hi : i < c) : S i + (sz S E c - sz S E i) ≤ x := by
  obtain ⟨d, rfl⟩ := Nat.exists_eq_add_of_le (show i + 1 ≤ c by omega)
  have hc := h.cut.1
  have h1 := sz_between h.dom i d (by omega)
  have h2 := h.cut.2.1 (i + d) (by omega)
  have h3 := h.kept (i + d) (by omega) h2
  rw [show i + 1 + d = i + d + 1 by omega]
  omega

theorem Lay.pass (h : Lay n S E x len c) : ∀ k, k < 2 * c → pdl k = false → pen n len S E k - pst S E k ≤ pidx S E (x - sz S E c) k ∧ pidx S E (x - sz S E c) (k + 1) = pidx S E (x - sz S E c) k - (pen n len S E k - pst S E k) := by
  intro k hk hd
  rcases even_or k with ⟨i, rfl⟩ | ⟨i, rfl⟩
  · have hc := h.cut.1
    have h1 := h.far i (by omega)
    have h2 : sz S E (i + 1) = sz S E i + (E i - S i) := rfl
    have h3 : prev E (i + 1) = E i := rfl
    rw [pen_even n len S E i (by omega), pst_even, pidx_even, pidx_odd]
    omega
  · rw [pdl_odd] at hd; cases hd

theorem Lay.skip (h : Lay n S E x len c) : ∀ k, k < 2 * c → pdl k = true → pidx S E (x - sz S E c) (k + 1) = pidx S E (x - sz S E c) k := by
  intro k hk hd
  rcases even_or k with ⟨i, rfl⟩ | ⟨i, rfl⟩
  · rw [pdl_even] at hd; cases hd
  · rw [show 2 * i + 1 + 1 = 2 * (i + 1) by omega, pidx_even, pidx_odd]

theorem Lay.at_c (h : Lay n S E x len c) : x < pen n len S E (2 * c) := by
  have hc := h.cut.1
  by_cases hn : c < n
  · rw [pen_even n len S E c hn]; exact h.cut.2.2 c (Nat.le_refl _) hn
  · have : c = n := by omega
    subst this
    rw [pen_last]; exact h.xl

theorem Lay.idx_c (h : Lay n S E x len c) : pst S E (2 * c) + pidx S E (x - sz S E c) (2 * c) = x := by
  rw [pst_even, pidx_even]; omega

theorem Lay.last_piece (h : Lay n S E x len c) : pidx S E (x - sz S E c) (2 * c) < pen n len S E (2 * c) - pst S E (2 * c) := by
  have := h.at_c
  have := h.idx_c
  omega

theorem Lay.idx_bounds (h : Lay n S E x len c) : ∀ k, k ≤ 2 * c → 0 ≤ pidx S E (x - sz S E c) k ∧ pidx S E (x - sz S E c) k ≤ 9223372036854775807 := by
  intro k hk
  have hc := h.cut.1
  have key : ∀ i, i ≤ c → 0 ≤ x - sz S E c - prev E i + sz S E i ∧ x - sz S E c - prev E i + sz S E i ≤ x := by
    intro i hi
    have h1 := h.prev_le i hi
    obtain ⟨d, rfl⟩ := Nat.exists_eq_add_of_le hi
    have h2 := sz_mono h.dom i d hc
    by_cases hd : d = 0
    · subst hd; simp only [Nat.add_zero]; omega
    · have h3 := h.far i (by omega)
      have h4 := h.prev_S i (by omega)
      omega
  have hl := h.lm
  have hx := h.xl
  rcases even_or k with ⟨i, rfl⟩ | ⟨i, rfl⟩
  · have := key i (by omega)
    rw [pidx_even]; omega
  · have := key (i + 1) (by omega)
    rw [pidx_odd]; omega

theorem Lay.piece_bounds (h : Lay n S E x len c) : ∀ k, k ≤ 2 * c → 0 ≤ pst S E k ∧ pst S E k ≤ pen n len S E k ∧ pen n len S E k ≤ 9223372036854775807 := by
  intro k hk
  have hc := h.cut.1
  have hl := h.lm
  have hx := h.xl
  rcases even_or k with ⟨i, rfl⟩ | ⟨i, rfl⟩
  · have h1 := h.prev_le i (by omega)
    rw [pst_even]
    by_cases hi : i < n
    · have h2 := h.prev_S i hi
      have h3 := h.S_len i hi
      rw [pen_even n len S E i hi]; omega
    · have : i = n := by omega
      subst this
      rw [pen_last]; omega
  · have h1 := h.cut.2.1 i (by omega)
    have h2 := h.kept i (by omega) h1
    have h3 := dom_nonneg h.dom (show i < n by omega)
    have h4 := (h.dom.2 i (by omega)).1
    rw [pst_odd, pen_odd]; omega

theorem Lay.st_le (h : Lay n S E x len c) : pst S E (2 * c) ≤ x := by
  rw [pst_even]; exact (h.prev_le c (Nat.le_refl _)).2

end Go.Proofs.Qxb6602346a.Pl
