/-
  THE PLAIN LAW OF THE BLOCKS' BOUNDARIES: where the joined spans open and close.
-/
import Derived.Test.Qxb6602346aZZJoin
namespace Go.Proofs.Qxb6602346a

theorem psOf_split (S E : Nat → Int) (k d : Nat) : ∃ q, psOf S E (k + d) = psOf S E k ++ q := by
  induction d with
  | zero => exact ⟨[], by simp⟩
  | succ d ih =>
    obtain ⟨q, hq⟩ := ih
    exact ⟨q ++ [(S (k + d), E (k + d))], by rw [← Nat.add_assoc, psOf, hq, List.append_assoc]⟩

theorem psOf_le (S E : Nat → Int) {k n : Nat} (h : k ≤ n) : ∃ q, psOf S E n = psOf S E k ++ q := by
  obtain ⟨d, rfl⟩ := Nat.exists_eq_add_of_le h
  exact psOf_split S E k d

/-- The joined list of the first k spans. -/
def Jn (S E : Nat → Int) (k : Nat) : List (Int × Int) := Pl.join (psOf S E k)

theorem Jn_zero (S E : Nat → Int) : Jn S E 0 = [] := rfl
theorem Jn_one (S E : Nat → Int) : Jn S E 1 = [(S 0, E 0)] := by simp [Jn, psOf, Pl.join, Pl.jstep]
theorem Jn_last (S E : Nat → Int) (k : Nat) : ∃ t a, Jn S E (k + 1) = t ++ [(a, E k)] := by
  unfold Jn
  rw [psOf]
  exact Pl.join_last _ _

theorem Jn_touch (S E : Nat → Int) (k : Nat) (h : E k = S (k + 1)) : (Jn S E (k + 2)).length = (Jn S E (k + 1)).length := by
  unfold Jn
  rw [psOf, psOf]
  exact Pl.join_touch _ _ _ h

theorem Jn_apart (S E : Nat → Int) (k : Nat) (h : ¬ E k = S (k + 1)) : Jn S E (k + 2) = Jn S E (k + 1) ++ [(S (k + 1), E (k + 1))] := by
  unfold Jn
  rw [psOf, psOf]
  exact Pl.join_apart _ _ _ h

theorem Jn_opens (S E : Nat → Int) (k : Nat) (h : k = 0 ∨ ¬ E (k - 1) = S k) : Jn S E (k + 1) = Jn S E k ++ [(S k, E k)] := by
  cases k with
  | zero => rw [Jn_one, Jn_zero]; rfl
  | succ k =>
    rcases h with h | h
    · omega
    · exact Jn_apart S E k h

theorem fst_at {l m : List (Int × Int)} (h : l.map Prod.fst <+: m.map Prod.fst) {i : Nat} (hi : i < l.length) : i < m.length ∧ fstOf m i = fstOf l i := by
  obtain ⟨r, hr⟩ := h
  have hl : l.length + r.length = m.length := by
    have := congrArg List.length hr
    simpa using this
  have hm : i < m.length := by omega
  refine ⟨hm, ?_⟩
  have e : (m.map Prod.fst)[i]? = (l.map Prod.fst)[i]? := by rw [← hr, List.getElem?_append_left (by simpa using hi)]
  unfold fstOf
  simp only [List.getD, List.getElem?_map, List.getElem?_eq_getElem hi, List.getElem?_eq_getElem hm, Option.map_some, Option.some.injEq] at e ⊢
  simpa using e

theorem snd_at {l m : List (Int × Int)} (h : l <+: m) {i : Nat} (hi : i < l.length) : i < m.length ∧ sndOf m i = sndOf l i := by
  obtain ⟨r, rfl⟩ := h
  refine ⟨by rw [List.length_append]; omega, ?_⟩
  unfold sndOf
  rw [List.getD, List.getD, List.getElem?_append_left hi]

/-- LOOP 1, a block opens at k. -/
theorem opens_yes (S E : Nat → Int) (n k : Nat) (hk : k < n) (h : k = 0 ∨ ¬ E (k - 1) = S k) :
    (Jn S E k).length < (Jn S E n).length ∧ fstOf (Jn S E n) (Jn S E k).length = S k ∧ (Jn S E (k + 1)).length = (Jn S E k).length + 1 := by
  have e := Jn_opens S E k h
  obtain ⟨q, hq⟩ := psOf_le S E (show k + 1 ≤ n by omega)
  have hp : (Jn S E (k + 1)).map Prod.fst <+: (Jn S E n).map Prod.fst := by
    unfold Jn
    rw [hq]
    exact Pl.join_fst_prefix _ _
  have hl : (Jn S E (k + 1)).length = (Jn S E k).length + 1 := by rw [e, List.length_append]; rfl
  obtain ⟨h1, h2⟩ := fst_at hp (i := (Jn S E k).length) (by omega)
  refine ⟨h1, ?_, hl⟩
  rw [h2, e, fstOf, getD_snoc_at]

theorem opens_no (S E : Nat → Int) (k : Nat) (h0 : ¬ k = 0) (h : E (k - 1) = S k) : (Jn S E (k + 1)).length = (Jn S E k).length := by
  cases k with
  | zero => omega
  | succ k => exact Jn_touch S E k h

/-- LOOP 2: how many blocks have closed behind k rounds. -/
def closed (S E : Nat → Int) (n k : Nat) : Nat := if k < n then (Jn S E (k + 1)).length - 1 else (Jn S E n).length

theorem closed_zero (S E : Nat → Int) (n : Nat) : closed S E n 0 = 0 := by
  unfold closed
  split
  · rw [Jn_one]; rfl
  · have : n = 0 := by omega
    subst this; rfl

theorem closed_end (S E : Nat → Int) (n : Nat) : closed S E n n = (Jn S E n).length := by
  unfold closed
  rw [if_neg (by omega)]

theorem closes_yes (S E : Nat → Int) (n k : Nat) (hk : k < n) (h : k = n - 1 ∨ ¬ E k = S (k + 1)) :
    closed S E n k < (Jn S E n).length ∧ sndOf (Jn S E n) (closed S E n k) = E k ∧ closed S E n (k + 1) = closed S E n k + 1 := by
  obtain ⟨t, a, e⟩ := Jn_last S E k
  have hc : closed S E n k = t.length := by
    unfold closed
    rw [if_pos hk, e, List.length_append, List.length_singleton, Nat.add_sub_cancel]
  by_cases h1 : k + 1 = n
  · subst h1
    rw [hc]
    refine ⟨by rw [e, List.length_append]; simp, by rw [e, sndOf, getD_snoc_at], ?_⟩
    rw [closed_end, e, List.length_append]; rfl
  · have hx : ¬ E k = S (k + 1) := by
      rcases h with h | h
      · omega
      · exact h
    have e2 := Jn_apart S E k hx
    obtain ⟨q, hq⟩ := psOf_le S E (show k + 2 ≤ n by omega)
    have hp : Jn S E (k + 1) <+: Jn S E n := by
      have h2 := Pl.join_init_prefix (psOf S E (k + 2)) q
      rw [← hq] at h2
      have e3 : (Pl.join (psOf S E (k + 2))).dropLast = Jn S E (k + 1) := by
        show (Jn S E (k + 2)).dropLast = _
        rw [e2]; simp
      rw [e3] at h2
      exact h2.trans (List.dropLast_prefix _)
    obtain ⟨h3, h4⟩ := snd_at hp (i := t.length) (by rw [e, List.length_append]; simp)
    rw [hc]
    refine ⟨h3, by rw [h4, e, sndOf, getD_snoc_at], ?_⟩
    unfold closed
    rw [if_pos (by omega), e2, e]
    simp

theorem closes_no (S E : Nat → Int) (n k : Nat) (hk : k < n) (h1 : ¬ k = n - 1) (h : E k = S (k + 1)) : closed S E n (k + 1) = closed S E n k := by
  unfold closed
  rw [if_pos (by omega), if_pos hk, Jn_touch S E k h]

theorem Jn_le (S E : Nat → Int) (k : Nat) : (Jn S E k).length ≤ k := by
  have := Pl.join_length_le (psOf S E k)
  rw [psOf_length] at this
  exact this

theorem closed_le (S E : Nat → Int) (n k : Nat) (h : k ≤ n) : closed S E n k ≤ k := by
  unfold closed
  split
  · have := Jn_le S E (k + 1); omega
  · have := Jn_le S E n; omega

end Go.Proofs.Qxb6602346a
