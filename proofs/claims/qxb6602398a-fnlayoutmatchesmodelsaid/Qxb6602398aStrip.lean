/-
  PLAIN: stripping the blanks and line breaks that lie outside strings gives layOut's input back.
-/
import Derived.Test.Qxb6602398aStr
namespace Go.Proofs.Qxb6602398a.Pl

/-- What jiStrip keeps of byte k. -/
def keep (g : Nat → Int) (k : Nat) : List Int := if (ss g k).1 = true then [g k] else if g k = 32 ∨ g k = 10 then [] else [g k]

/-- jiStrip's output behind k bytes. -/
def st (g : Nat → Int) : Nat → List Int
  | 0 => []
  | k + 1 => st g k ++ keep g k

theorem st_length (g : Nat → Int) (k : Nat) : (st g k).length ≤ k := by
  induction k with
  | zero => simp [st]
  | succ k ih =>
    have : (keep g k).length ≤ 1 := by unfold keep; split; · simp
                                       split <;> simp
    simp only [st, List.length_append]
    omega

/-- The state behind a list; what is kept of it. -/
def ssL (s : Bool × Bool) (l : List Int) : Bool × Bool := l.foldl ssStep s
def stL : Bool × Bool → List Int → List Int
  | _, [] => []
  | s, c :: t => (if s.1 = true then [c] else if c = 32 ∨ c = 10 then [] else [c]) ++ stL (ssStep s c) t

theorem ssL_append (s : Bool × Bool) (a b : List Int) : ssL s (a ++ b) = ssL (ssL s a) b := by simp [ssL, List.foldl_append]
theorem stL_append (a : List Int) : ∀ (s : Bool × Bool) (b : List Int), stL s (a ++ b) = stL s a ++ stL (ssL s a) b := by
  induction a with
  | nil => intro s b; simp [stL, ssL]
  | cons c t ih =>
    intro s b
    rw [List.cons_append, stL, stL, ih, List.append_assoc]
    rfl

theorem take_snoc (L : List Int) (k : Nat) (h : k < L.length) : L.take (k + 1) = L.take k ++ [L.getD k 0] := by
  rw [List.take_succ_eq_append_getElem h]
  simp [List.getD, h]

theorem st_list (L : List Int) : ∀ k, k ≤ L.length → ss (fun j => L.getD j 0) k = ssL (false, false) (L.take k) ∧ st (fun j => L.getD j 0) k = stL (false, false) (L.take k) := by
  intro k
  induction k with
  | zero => intro _; exact ⟨rfl, rfl⟩
  | succ k ih =>
    intro hk
    obtain ⟨h1, h2⟩ := ih (by omega)
    rw [take_snoc L k (by omega), ssL_append, stL_append, ← h1, ← h2]
    refine ⟨rfl, ?_⟩
    show st _ k ++ keep _ k = _
    unfold keep
    simp [stL]

theorem st_whole (L : List Int) : st (fun j => L.getD j 0) L.length = stL (false, false) L := by
  rw [(st_list L L.length (Nat.le_refl _)).2, List.take_length]

/-- Blanks and line breaks outside a string: nothing is kept, nothing turns. -/
theorem white (l : List Int) (q : Bool) (h : ∀ c ∈ l, c = 32 ∨ c = 10) : ssL (false, q) l = (false, q) ∧ stL (false, q) l = [] := by
  induction l with
  | nil => exact ⟨rfl, rfl⟩
  | cons c t ih =>
    have hc := h c (by simp)
    obtain ⟨i1, i2⟩ := ih (fun d hd => h d (by simp [hd]))
    have e : ssStep (false, q) c = (false, q) := by
      unfold ssStep
      rw [if_neg (by simp), if_neg (by omega)]
    refine ⟨?_, ?_⟩
    · show ssL (ssStep (false, q) c) t = _
      rw [e]; exact i1
    · rw [stL, e, i2, if_neg (by simp), if_pos hc]; rfl

theorem nl_white (d : Int) : ∀ c ∈ nl d, c = 32 ∨ c = 10 := by
  intro c hc
  rcases List.mem_cons.1 hc with h | h
  · exact .inr h
  · exact .inl (List.mem_replicate.1 h).2

/-- One byte that is no blank, outside a string. -/
theorem one_out (c : Int) (q : Bool) (h : ¬ c = 32 ∧ ¬ c = 10) : stL (false, q) [c] = [c] := by
  simp [stL, h.1, h.2]
theorem one_in (c : Int) (q : Bool) : stL (true, q) [c] = [c] := by simp [stL]

/-- What layOut writes for one byte: stripped, it is that byte; the state goes on as the input's. -/
theorem emit_strip (f : Nat → Int) (k : Nat) (d : Int) (p q : Bool) (h : p = false → ¬ f k = 32 ∧ ¬ f k = 10) :
    ssL (p, q) (emit f k d p).1 = ssStep (p, q) (f k) ∧ stL (p, q) (emit f k d p).1 = [f k] := by
  cases p with
  | true =>
    have e : emit f k d true = ([f k], d) := by simp [emit]
    rw [e]
    exact ⟨rfl, one_in _ _⟩
  | false =>
    have hw := h rfl
    have ho := one_out (f k) q hw
    have back : ∀ l, (∀ c ∈ l, c = 32 ∨ c = 10) → ¬ f k = 34 → ssL (false, q) (f k :: l) = ssStep (false, q) (f k) ∧ stL (false, q) (f k :: l) = [f k] := by
      intro l hl hq
      have es : ssStep (false, q) (f k) = (false, q) := by unfold ssStep; rw [if_neg (by simp), if_neg hq]
      obtain ⟨w1, w2⟩ := white l q hl
      have e : f k :: l = [f k] ++ l := rfl
      rw [e, ssL_append, stL_append, ho]
      have e2 : ssL (false, q) [f k] = (false, q) := es
      rw [e2, w1, w2, es]
      exact ⟨rfl, rfl⟩
    unfold emit
    rw [if_neg (by decide)]
    split
    · rename_i hc
      split
      · exact back _ (nl_white _) (by omega)
      · exact back [] (by simp) (by omega)
    split
    · rename_i hc
      dsimp only
      split
      · obtain ⟨w1, w2⟩ := white _ q (nl_white (d - 1))
        rw [ssL_append, stL_append, w1, w2, ho]
        exact ⟨rfl, rfl⟩
      · exact ⟨rfl, ho⟩
    split
    · rename_i hc
      dsimp only
      split
      · exact back _ (nl_white _) (by omega)
      · exact back [] (by simp) (by omega)
    split
    · rename_i hc
      dsimp only
      split
      · exact back [32] (by simp) (by omega)
      · exact back [] (by simp) (by omega)
    · exact ⟨rfl, ho⟩

/-- The first k bytes of f. -/
def bytesOf (f : Nat → Int) : Nat → List Int
  | 0 => []
  | k + 1 => bytesOf f k ++ [f k]

theorem bytesOf_length (f : Nat → Int) (k : Nat) : (bytesOf f k).length = k := by
  induction k with
  | zero => rfl
  | succ k ih => simp [bytesOf, ih]

theorem bytesOf_get (f : Nat → Int) (n : Nat) : ∀ i, i < n → (bytesOf f n).getD i 0 = f i := by
  induction n with
  | zero => intro i h; omega
  | succ n ih =>
    intro i h
    rw [bytesOf, List.getD]
    by_cases hi : i < n
    · rw [List.getElem?_append_left (by rw [bytesOf_length]; exact hi)]; exact ih i hi
    · have : i = n := by omega
      subst this
      rw [List.getElem?_append_right (by rw [bytesOf_length]; exact Nat.le_refl _), bytesOf_length, Nat.sub_self]; rfl

theorem lo_strip (f : Nat → Int) (n : Nat) (h : Fit n f true) : ∀ k, k ≤ n → ssL (false, false) (lo f k).1 = ss f k ∧ stL (false, false) (lo f k).1 = bytesOf f k := by
  intro k
  induction k with
  | zero => intro _; exact ⟨rfl, rfl⟩
  | succ k ih =>
    intro hk
    obtain ⟨h1, h2⟩ := ih (by omega)
    have hs : ss f k = ((ss f k).1, (ss f k).2) := rfl
    have he := emit_strip f k (lo f k).2 (ss f k).1 (ss f k).2 (fun hp => (h k (by omega) hp).1 rfl)
    simp only [lo]
    rw [ssL_append, stL_append, h1, h2]
    exact ⟨he.1, by rw [he.2]; rfl⟩

/-- THE LAW. -/
theorem strip_back (f : Nat → Int) (n : Nat) (h : Fit n f true) : st (fun j => (lo f n).1.getD j 0) (lo f n).1.length = bytesOf f n := by
  rw [st_whole, (lo_strip f n h n (Nat.le_refl _)).2]

end Go.Proofs.Qxb6602398a.Pl
