/-
  PLAIN: what a value of JSON does to layOut's state, piece by piece.
-/
import Derived.Test.Qxb6602398aStr
namespace Go.Proofs.Qxb6602398a.Pl
set_option linter.unusedVariables false

abbrev isOp (c : Int) : Prop := c = 123 ∨ c = 91
abbrev isCl (c : Int) : Prop := c = 125 ∨ c = 93

/-- Outside every string, layOut has written M at depth d, and nothing is out of range so far. -/
structure St (n : Nat) (f : Nat → Int) (pos : Nat) (M : List Int) (d : Int) : Prop where
  str : ss f pos = (false, false)
  out : lo f pos = (M, d)
  fit : ∀ k, k < pos → FitAt n f false k

theorem St.bounds {n : Nat} {f : Nat → Int} {pos : Nat} {M : List Int} {d : Int} (h : St n f pos M d) : M.length ≤ 66 * pos ∧ -(pos : Int) ≤ d ∧ d ≤ pos := by
  have := lo_bounds f pos
  rw [h.out] at this
  exact ⟨this.2.1, this.2.2.1, this.2.2.2⟩

theorem St.zero (n : Nat) (f : Nat → Int) : St n f 0 [] 0 := ⟨rfl, rfl, fun k hk => by omega⟩

theorem lo_next' {f : Nat → Int} {k : Nat} {L : List Int} {d : Int} {p q : Bool} {o : List Int} {d' : Int} (hl : lo f k = (L, d)) (hs : ss f k = (p, q)) (he : emit f k d p = (o, d')) :
    lo f (k + 1) = (L ++ o, d') := by
  rw [lo, hl, hs]
  dsimp only
  rw [he]

/-- A byte that is no bracket, comma, colon or quote. -/
def plain (c : Int) : Prop := ¬ isOp c ∧ ¬ isCl c ∧ ¬ c = 44 ∧ ¬ c = 58 ∧ ¬ c = 34

variable {n : Nat} {f : Nat → Int} {pos : Nat} {M : List Int} {d : Int}

theorem fit_to (h : ∀ k, k < pos → FitAt n f false k) (h' : FitAt n f false pos) : ∀ k, k < pos + 1 → FitAt n f false k := fit_step h h'

theorem St.plain (h : St n f pos M d) (hp : Pl.plain (f pos)) : St n f (pos + 1) (M ++ [f pos]) d := by
  obtain ⟨h1, h2, h3, h4, h5⟩ := hp
  unfold isOp isCl at *
  refine ⟨?_, lo_next' h.out h.str ?_, fit_to h.fit fun _ => ⟨(fun h => by cases h), fun h => absurd h h2, fun h => absurd h h1⟩⟩
  · rw [ss, h.str]; simp [ssStep, h5]
  · unfold emit; rw [if_neg (by decide), if_neg h1, if_neg h2, if_neg h3, if_neg h4]

theorem St.comma (h : St n f pos M d) (hc : f pos = 44) : St n f (pos + 1) (M ++ (44 :: (if d ≤ 32 then nl d else []))) d := by
  refine ⟨?_, lo_next' h.out h.str ?_, fit_to h.fit fun _ => ⟨(fun h => by cases h), fun h => by omega, fun h => by omega⟩⟩
  · rw [ss, h.str, hc]; rfl
  · unfold emit; rw [hc]; simp

theorem St.colon (h : St n f pos M d) (hc : f pos = 58) : St n f (pos + 1) (M ++ (58 :: (if d ≤ 32 then [32] else []))) d := by
  refine ⟨?_, lo_next' h.out h.str ?_, fit_to h.fit fun _ => ⟨(fun h => by cases h), fun h => by omega, fun h => by omega⟩⟩
  · rw [ss, h.str, hc]; rfl
  · unfold emit; rw [hc]; simp

theorem St.open_ (h : St n f pos M d) (hc : isOp (f pos)) (hn : pos + 1 < n) : St n f (pos + 1) (M ++ (f pos :: (if d + 1 ≤ 32 ∧ ¬ isCl (f (pos + 1)) then nl (d + 1) else []))) (d + 1) := by
  unfold isOp at hc
  refine ⟨?_, lo_next' h.out h.str ?_, fit_to h.fit fun _ => ⟨(fun h => by cases h), fun h => by omega, fun _ => hn⟩⟩
  · rw [ss, h.str]
    unfold ssStep
    rw [if_neg (by simp), if_neg (by omega)]
  · unfold emit isCl; rw [if_neg (by decide), if_pos hc]

theorem St.close (h : St n f pos M d) (hc : isCl (f pos)) (h0 : ¬ pos = 0) : St n f (pos + 1) (M ++ ((if d ≤ 32 ∧ ¬ isOp (f (pos - 1)) then nl (d - 1) else []) ++ [f pos])) (d - 1) := by
  unfold isCl at hc
  refine ⟨?_, lo_next' h.out h.str ?_, fit_to h.fit fun _ => ⟨(fun h => by cases h), fun _ => h0, fun h => by omega⟩⟩
  · rw [ss, h.str]
    unfold ssStep
    rw [if_neg (by simp), if_neg (by omega)]
  · unfold emit isOp; rw [if_neg (by decide), if_neg (by omega), if_pos hc]

/-- The bytes f a, f (a+1), .. : j of them. -/
def seg (f : Nat → Int) (a : Nat) : Nat → List Int
  | 0 => []
  | j + 1 => seg f a j ++ [f (a + j)]

theorem seg_length (f : Nat → Int) (a j : Nat) : (seg f a j).length = j := by
  induction j with
  | zero => rfl
  | succ j ih => simp [seg, ih]

theorem St.scalar (h : St n f pos M d) (j : Nat) (hp : ∀ k, pos ≤ k → k < pos + j → Pl.plain (f k)) : St n f (pos + j) (M ++ seg f pos j) d := by
  induction j with
  | zero => simpa [seg] using h
  | succ j ih =>
    have h1 := ih (fun k a b => hp k a (by omega))
    have h2 := h1.plain (hp (pos + j) (by omega) (by omega))
    rw [seg, ← List.append_assoc]
    exact h2

/-- A string that opens at pos and ends ahead of pos + 1 + j. -/
theorem St.string (h : St n f pos M d) (hq : f pos = 34) (j : Nat) (hin : ∀ k, pos < k → k < pos + 1 + j → (ss f k).1 = true) (hend : ss f (pos + 1 + j) = (false, false)) :
    St n f (pos + 1 + j) (M ++ seg f pos (1 + j)) d := by
  have key : ∀ i, i ≤ j → lo f (pos + 1 + i) = (M ++ seg f pos (1 + i), d) ∧ ∀ k, k < pos + 1 + i → FitAt n f false k := by
    intro i
    induction i with
    | zero =>
      intro _
      have he : emit f pos d false = ([f pos], d) := by unfold emit; rw [hq]; simp
      refine ⟨lo_next' h.out h.str he, fit_to h.fit fun _ => ⟨(fun h => by cases h), fun h => by omega, fun h => by omega⟩⟩
    | succ i ih =>
      intro hi
      obtain ⟨h1, h2⟩ := ih (by omega)
      have hs := hin (pos + 1 + i) (by omega) (by omega)
      have hs' : ss f (pos + 1 + i) = (true, (ss f (pos + 1 + i)).2) := by rw [← hs]
      have he : emit f (pos + 1 + i) d true = ([f (pos + 1 + i)], d) := by simp [emit]
      refine ⟨?_, fit_to h2 fun hf => absurd (hf.symm.trans hs) (by decide)⟩
      have := lo_next' h1 hs' he
      rw [show 1 + (i + 1) = (1 + i) + 1 by omega, seg, ← List.append_assoc, show pos + (1 + i) = pos + 1 + i by omega]
      exact this
  obtain ⟨h1, h2⟩ := key j (Nat.le_refl _)
  exact ⟨hend, h1, h2⟩

end Go.Proofs.Qxb6602398a.Pl
