/-
  PLAIN MATHEMATICS OF VISIBLE INDEXES: deleted spans, by index. No Go in sight.
-/
namespace Go.Proofs.Qxb6602346a.Pl

/-- How many offsets the first k spans hold. -/
def sz (S E : Nat → Int) : Nat → Int
  | 0 => 0
  | k + 1 => sz S E k + (E k - S k)

/-- Ascending spans of offsets that are not negative. -/
def Dom (n : Nat) (S E : Nat → Int) : Prop :=
  (0 < n → 0 ≤ S 0) ∧ ∀ k, k < n → S k ≤ E k ∧ (k + 1 < n → E k ≤ S (k + 1))

/-- The offset x lies in none of the spans. -/
def Kept (n : Nat) (S E : Nat → Int) (x : Int) : Prop := ∀ k, k < n → S k ≤ x → E k ≤ x

/-- The spans that begin at x or before it are the first c. -/
def CutAt (n : Nat) (S : Nat → Int) (x : Int) (c : Nat) : Prop := c ≤ n ∧ (∀ i, i < c → S i ≤ x) ∧ (∀ i, c ≤ i → i < n → x < S i)

variable {n : Nat} {S E : Nat → Int}

theorem dom_mono (h : Dom n S E) (i d : Nat) : i + d < n → S i ≤ S (i + d) := by
  induction d with
  | zero => intro _; exact Int.le_refl _
  | succ d ih =>
    intro hd
    have h1 := ih (by omega)
    have h2 := h.2 (i + d) (by omega)
    have h3 := h2.2 (by omega)
    have h4 := h2.1
    show S i ≤ S (i + d + 1)
    omega

theorem dom_le (h : Dom n S E) {i j : Nat} (hij : i ≤ j) (hj : j < n) : S i ≤ S j := by
  obtain ⟨d, rfl⟩ := Nat.exists_eq_add_of_le hij
  exact dom_mono h i d hj

theorem dom_nonneg (h : Dom n S E) {k : Nat} (hk : k < n) : 0 ≤ S k := by
  have h0 := h.1 (by omega)
  have := dom_le h (Nat.zero_le k) hk
  omega

theorem sz_mono (h : Dom n S E) (i d : Nat) : i + d ≤ n → sz S E i ≤ sz S E (i + d) := by
  induction d with
  | zero => intro _; exact Int.le_refl _
  | succ d ih =>
    intro hd
    have h1 := ih (by omega)
    have h2 := (h.2 (i + d) (by omega)).1
    show sz S E i ≤ sz S E (i + d) + (E (i + d) - S (i + d))
    omega

theorem sz_between (h : Dom n S E) (i d : Nat) : i + d + 1 ≤ n → sz S E (i + d + 1) - sz S E i ≤ E (i + d) - S i := by
  induction d with
  | zero =>
    intro _
    show sz S E i + (E i - S i) - sz S E i ≤ E i - S i
    omega
  | succ d ih =>
    intro hd
    have h1 := ih (by omega)
    have h2 := (h.2 (i + d) (by omega)).2 (by omega)
    have h3 : sz S E (i + (d + 1) + 1) = sz S E (i + d + 1) + (E (i + d + 1) - S (i + d + 1)) := rfl
    show sz S E (i + (d + 1) + 1) - sz S E i ≤ E (i + d + 1) - S i
    omega

theorem sz_nonneg (h : Dom n S E) {k : Nat} (hk : k ≤ n) : 0 ≤ sz S E k := by
  have := sz_mono h 0 k (by omega)
  rw [Nat.zero_add] at this
  exact this

theorem sz_le (h : Dom n S E) {k : Nat} (hk : k < n) : sz S E (k + 1) ≤ E k := by
  have h1 := sz_between h 0 k (by omega)
  rw [Nat.zero_add] at h1
  have h2 := h.1 (by omega)
  have h3 : sz S E 0 = 0 := rfl
  omega

theorem cut_exists (h : Dom n S E) (x : Int) : ∃ c, CutAt n S x c := by
  suffices hs : ∀ m, m ≤ n → ∃ c, CutAt m S x c from hs n (Nat.le_refl _)
  intro m
  induction m with
  | zero => intro _; exact ⟨0, Nat.le_refl _, fun i hi => by omega, fun i _ hi => by omega⟩
  | succ m ih =>
    intro hm
    obtain ⟨c, hc, h1, h2⟩ := ih (by omega)
    by_cases hx : S m ≤ x
    · refine ⟨m + 1, Nat.le_refl _, fun i hi => ?_, fun i hi hi' => by omega⟩
      have := dom_le h (show i ≤ m by omega) (by omega)
      omega
    · refine ⟨c, by omega, h1, fun i hi hi' => ?_⟩
      by_cases hi2 : i < m
      · exact h2 i hi hi2
      · have : i = m := by omega
        subst this
        omega

theorem kept_sz (h : Dom n S E) {x : Int} (hk : Kept n S E x) (h0 : 0 ≤ x) {c : Nat} (hc : CutAt n S x c) {k : Nat} (hkc : k ≤ c) : 0 ≤ sz S E k ∧ sz S E k ≤ x := by
  obtain ⟨hcn, h1, h2⟩ := hc
  refine ⟨sz_nonneg h (by omega), ?_⟩
  cases k with
  | zero => exact h0
  | succ k =>
    have a := sz_le h (show k < n by omega)
    have b := hk k (by omega) (h1 k (by omega))
    omega

/-- What the law of the visible index adds up: behind k rounds, the spans below x. -/
theorem before_step {x : Int} {c k : Nat} (h : Dom n S E) (hk : Kept n S E x) (hc : CutAt n S x c) (hkn : k < n) :
    sz S E (min (k + 1) c) = if S k < (if x < E k then x else E k) then sz S E (min k c) + ((if x < E k then x else E k) - S k) else sz S E (min k c) := by
  obtain ⟨hcn, h1, h2⟩ := hc
  by_cases hlt : k < c
  · have a := h1 k hlt
    have b := hk k hkn a
    have e := (h.2 k hkn).1
    have e1 : (if x < E k then x else E k) = E k := if_neg (by omega)
    rw [e1, Nat.min_eq_left (by omega), Nat.min_eq_left (by omega)]
    show sz S E k + (E k - S k) = _
    split
    · rfl
    · omega
  · have a := h2 k (by omega) hkn
    have e := (h.2 k hkn).1
    have e1 : (if x < E k then x else E k) = x := if_pos (by omega)
    rw [e1, if_neg (by omega), Nat.min_eq_right (by omega), Nat.min_eq_right (by omega)]

/-- The visible index grows strictly, by no more than the offset does. -/
theorem vis_strict (h : Dom n S E) {a b : Int} {ca cb : Nat} (hab : a < b) (hb : Kept n S E b) (ka : CutAt n S a ca) (kb : CutAt n S b cb) :
    a - sz S E ca < b - sz S E cb ∧ (b - sz S E cb) - (a - sz S E ca) ≤ b - a := by
  obtain ⟨hcan, a1, a2⟩ := ka
  obtain ⟨hcbn, b1, b2⟩ := kb
  have hle : ca ≤ cb := by
    apply Classical.byContradiction
    intro hn
    have x1 := a1 cb (by omega)
    have x2 := b2 cb (Nat.le_refl _) (by omega)
    omega
  obtain ⟨d, rfl⟩ := Nat.exists_eq_add_of_le hle
  have m := sz_mono h ca d hcbn
  refine ⟨?_, by omega⟩
  cases d with
  | zero => simp only [Nat.add_zero]; omega
  | succ d =>
    have x1 := sz_between h ca d hcbn
    have x2 := a2 ca (Nat.le_refl _) (by omega)
    have x3 := hb (ca + d) (by omega) (b1 (ca + d) (by omega))
    show a - sz S E ca < b - sz S E (ca + d + 1)
    omega

end Go.Proofs.Qxb6602346a.Pl
