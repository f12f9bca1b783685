/-
  PLAIN: inside or outside a string, byte by byte; what jiFitsLayOut asks.
-/
namespace Go.Proofs.Qxb6602398a.Pl

/-- One byte: (inside a string, behind a backslash). -/
def ssStep (s : Bool × Bool) (c : Int) : Bool × Bool :=
  if s.1 = true then (if s.2 = true then (true, false) else if c = 92 then (true, true) else if c = 34 then (false, false) else (true, false))
  else if c = 34 then (true, s.2) else (false, s.2)

/-- The state ahead of byte k. -/
def ss (f : Nat → Int) : Nat → Bool × Bool
  | 0 => (false, false)
  | k + 1 => ssStep (ss f k) (f k)

/-- What is asked of byte k. -/
def FitAt (n : Nat) (f : Nat → Int) (fw : Bool) (k : Nat) : Prop :=
  (ss f k).1 = false → (fw = true → ¬ f k = 32 ∧ ¬ f k = 10) ∧ (f k = 125 ∨ f k = 93 → ¬ k = 0) ∧ (f k = 123 ∨ f k = 91 → k + 1 < n)

def Fit (n : Nat) (f : Nat → Int) (fw : Bool) : Prop := ∀ k, k < n → FitAt n f fw k

theorem fit_step {n : Nat} {f : Nat → Int} {fw : Bool} {k : Nat} (H : ∀ t, t < k → FitAt n f fw t) (h : FitAt n f fw k) : ∀ t, t < k + 1 → FitAt n f fw t := by
  intro t ht
  by_cases h2 : t < k
  · exact H t h2
  · obtain rfl : t = k := by omega
    exact h

theorem ss_next {f : Nat → Int} {k : Nat} {p q : Bool} {c : Int} (h : ss f k = (p, q)) (hc : c = f k) : ss f (k + 1) = ssStep (p, q) c := by
  rw [ss, h, ← hc]

/-- Which byte is it? -/
theorem cls (c : Int) : c = 32 ∨ c = 10 ∨ c = 125 ∨ c = 93 ∨ c = 123 ∨ c = 91 ∨ c = 34 ∨
    ((c == 32) = false ∧ (c == 10) = false ∧ (c == 125) = false ∧ (c == 93) = false ∧ (c == 123) = false ∧ (c == 91) = false ∧ (c == 34) = false) := by
  by_cases h1 : c = 32
  · exact .inl h1
  by_cases h2 : c = 10
  · exact .inr (.inl h2)
  by_cases h3 : c = 125
  · exact .inr (.inr (.inl h3))
  by_cases h4 : c = 93
  · exact .inr (.inr (.inr (.inl h4)))
  by_cases h5 : c = 123
  · exact .inr (.inr (.inr (.inr (.inl h5))))
  by_cases h6 : c = 91
  · exact .inr (.inr (.inr (.inr (.inr (.inl h6)))))
  by_cases h7 : c = 34
  · exact .inr (.inr (.inr (.inr (.inr (.inr (.inl h7))))))
  refine .inr (.inr (.inr (.inr (.inr (.inr (.inr ?_))))))
  simp [h1, h2, h3, h4, h5, h6, h7]

/-- A line break and the indentation of d levels. -/
def nl (d : Int) : List Int := 10 :: List.replicate (2 * d.toNat) 32

theorem nl_length (d : Int) : (nl d).length = 1 + 2 * d.toNat := by simp [nl]; omega

/-- What layOut writes for byte k at depth d (p: inside a string), and the depth behind it. -/
def emit (f : Nat → Int) (k : Nat) (d : Int) (p : Bool) : List Int × Int :=
  if p = true then ([f k], d)
  else if f k = 123 ∨ f k = 91 then (f k :: (if d + 1 ≤ 32 ∧ ¬ (f (k + 1) = 125 ∨ f (k + 1) = 93) then nl (d + 1) else []), d + 1)
  else if f k = 125 ∨ f k = 93 then ((if d ≤ 32 ∧ ¬ (f (k - 1) = 123 ∨ f (k - 1) = 91) then nl (d - 1) else []) ++ [f k], d - 1)
  else if f k = 44 then (f k :: (if d ≤ 32 then nl d else []), d)
  else if f k = 58 then (f k :: (if d ≤ 32 then [32] else []), d)
  else ([f k], d)

/-- layOut's output and depth behind k bytes. -/
def lo (f : Nat → Int) : Nat → List Int × Int
  | 0 => ([], 0)
  | k + 1 => ((lo f k).1 ++ (emit f k (lo f k).2 (ss f k).1).1, (emit f k (lo f k).2 (ss f k).1).2)

theorem emit_bounds (f : Nat → Int) (k : Nat) (d : Int) (p : Bool) : 1 ≤ (emit f k d p).1.length ∧ (emit f k d p).1.length ≤ 66 ∧ d - 1 ≤ (emit f k d p).2 ∧ (emit f k d p).2 ≤ d + 1 := by
  unfold emit
  split
  · simp; omega
  split
  · split
    · simp [nl_length]; omega
    · simp; omega
  split
  · split
    · simp [nl_length]; omega
    · simp; omega
  split
  · split
    · simp [nl_length]; omega
    · simp; omega
  split
  · split
    · simp; omega
    · simp; omega
  · simp; omega

theorem lo_bounds (f : Nat → Int) (k : Nat) : k ≤ (lo f k).1.length ∧ (lo f k).1.length ≤ 66 * k ∧ -(k : Int) ≤ (lo f k).2 ∧ (lo f k).2 ≤ (k : Int) := by
  induction k with
  | zero => simp [lo]
  | succ k ih =>
    have := emit_bounds f k (lo f k).2 (ss f k).1
    simp only [lo, List.length_append]
    omega

end Go.Proofs.Qxb6602398a.Pl
