/-
  THE PLAIN LAW OF SEPARATION: joined ascending spans are separated, and joining them again changes nothing.
-/
import Derived.Test.Qxb6602346aLawJ
namespace Go.Proofs.Qxb6602346a

/-- Spans that run forward with a gap between any two. -/
def Sepd (l : List (Int × Int)) : Prop := ∀ k, k < l.length → fstOf l k ≤ sndOf l k ∧ (k + 1 < l.length → sndOf l k < fstOf l (k + 1))

theorem fst_snoc_lt {L : List (Int × Int)} {x : Int × Int} {i : Nat} (h : i < L.length) : fstOf (L ++ [x]) i = fstOf L i := by
  unfold fstOf; rw [getD_snoc_lt h]
theorem snd_snoc_lt {L : List (Int × Int)} {x : Int × Int} {i : Nat} (h : i < L.length) : sndOf (L ++ [x]) i = sndOf L i := by
  unfold sndOf; rw [getD_snoc_lt h]
theorem fst_snoc_at (L : List (Int × Int)) (x : Int × Int) : fstOf (L ++ [x]) L.length = x.1 := by
  unfold fstOf; rw [getD_snoc_at]
theorem snd_snoc_at (L : List (Int × Int)) (x : Int × Int) : sndOf (L ++ [x]) L.length = x.2 := by
  unfold sndOf; rw [getD_snoc_at]

theorem Sepd_init {t : List (Int × Int)} {l : Int × Int} (h : Sepd (t ++ [l])) : Sepd t := by
  intro k hk
  have hl : (t ++ [l]).length = t.length + 1 := by simp
  have h1 := h k (by omega)
  rw [fst_snoc_lt hk, snd_snoc_lt hk] at h1
  refine ⟨h1.1, fun h2 => ?_⟩
  have h3 := h1.2 (by omega)
  rw [fst_snoc_lt h2] at h3
  exact h3

theorem Sepd_snoc {t : List (Int × Int)} {x : Int × Int} (h : Sepd t) (hx : x.1 ≤ x.2) (hg : ∀ k, k + 1 = t.length → sndOf t k < x.1) : Sepd (t ++ [x]) := by
  intro k hk
  have hl : (t ++ [x]).length = t.length + 1 := by simp
  rw [hl] at hk
  by_cases hk' : k < t.length
  · rw [fst_snoc_lt hk', snd_snoc_lt hk']
    refine ⟨(h k hk').1, fun h2 => ?_⟩
    by_cases h3 : k + 1 < t.length
    · rw [fst_snoc_lt h3]; exact (h k hk').2 h3
    · have e : k + 1 = t.length := by omega
      rw [e, fst_snoc_at]; exact hg k e
  · have e : k = t.length := by omega
    subst e
    rw [fst_snoc_at, snd_snoc_at]
    exact ⟨hx, fun h2 => by omega⟩

theorem Jn_sepd {S E : Nat → Int} {n : Nat} (h : Asc n S E) : ∀ k, k ≤ n → Sepd (Jn S E k) := by
  intro k
  induction k with
  | zero => intro _ i hi; simp [Jn_zero] at hi
  | succ k ih =>
    intro hk
    have hs := ih (by omega)
    have hk1 := h k (by omega)
    cases k with
    | zero =>
      rw [Jn_one]
      intro i hi
      have : i = 0 := by simpa using hi
      subst this
      exact ⟨hk1.1, fun h => by simp at h⟩
    | succ k =>
      obtain ⟨t, a, e⟩ := Jn_last S E k
      have hk0 := h k (by omega)
      by_cases ht : E k = S (k + 1)
      · have e2 : Jn S E (k + 1 + 1) = t ++ [(a, E (k + 1))] := by
          have e3 : Jn S E (k + 1 + 1) = Pl.jstep (Jn S E (k + 1)) (S (k + 1), E (k + 1)) := by
            unfold Jn
            rw [psOf, Pl.join_snoc]
          rw [e3, e, Pl.jstep_snoc, if_pos ht]
        rw [e2]
        rw [e] at hs
        have hl : (t ++ [(a, E k)]).length = t.length + 1 := by simp
        have hla := (hs t.length (by omega)).1
        rw [fst_snoc_at, snd_snoc_at] at hla
        simp only at hla
        refine Sepd_snoc (Sepd_init hs) ?_ ?_
        · have := hk1.1
          show a ≤ E (k + 1)
          omega
        · intro i hi
          have h4 := (hs i (by omega)).2 (by omega)
          rw [snd_snoc_lt (by omega), hi, fst_snoc_at] at h4
          exact h4
      · rw [Jn_apart S E k ht]
        refine Sepd_snoc hs hk1.1 ?_
        intro i hi
        have : i = t.length := by rw [e] at hi; simp at hi; omega
        subst this
        rw [e, snd_snoc_at]
        have := hk0.2 (by omega)
        show E k < S (k + 1)
        omega

theorem Jn_first (S E : Nat → Int) (n : Nat) (h : 0 < n) : 0 < (Jn S E n).length ∧ fstOf (Jn S E n) 0 = S 0 := by
  have := opens_yes S E n 0 h (.inl rfl)
  exact ⟨by have := this.1; omega, this.2.1⟩

theorem Jn_end (S E : Nat → Int) (n : Nat) (h : 0 < n) : sndOf (Jn S E n) ((Jn S E n).length - 1) = E (n - 1) := by
  obtain ⟨k, rfl⟩ : ∃ k, n = k + 1 := ⟨n - 1, by omega⟩
  obtain ⟨t, a, e⟩ := Jn_last S E k
  rw [e, List.length_append, List.length_singleton, Nat.add_sub_cancel, snd_snoc_at]
  rfl

theorem psOf_get (S E : Nat → Int) (n i : Nat) (h : i < n) : (psOf S E n)[i]? = some (S i, E i) := by
  induction n with
  | zero => omega
  | succ n ih =>
    rw [psOf]
    by_cases hi : i < n
    · rw [List.getElem?_append_left (by rw [psOf_length]; exact hi)]; exact ih hi
    · have : i = n := by omega
      subst this
      rw [List.getElem?_append_right (by rw [psOf_length]; exact Nat.le_refl _), psOf_length, Nat.sub_self]; rfl

theorem psOf_self (l : List (Int × Int)) : psOf (fstOf l) (sndOf l) l.length = l := by
  apply List.ext_getElem?
  intro i
  by_cases h : i < l.length
  · rw [psOf_get _ _ _ _ h, List.getElem?_eq_getElem h]
    unfold fstOf sndOf
    simp [List.getD, h]
  · rw [List.getElem?_eq_none (by rw [psOf_length]; omega), List.getElem?_eq_none (by omega)]

theorem Jn_sep (F G : Nat → Int) (m : Nat) (h : ∀ k, k + 1 < m → G k < F (k + 1)) : ∀ k, k ≤ m → Jn F G k = psOf F G k := by
  intro k
  induction k with
  | zero => intro _; rfl
  | succ k ih =>
    intro hk
    cases k with
    | zero => rw [Jn_one]; rfl
    | succ k =>
      rw [Jn_apart F G k (by have := h k (by omega); omega), ih (by omega)]
      rfl

/-- JOINING AGAIN CHANGES NOTHING. -/
theorem join_again {l : List (Int × Int)} (h : Sepd l) : Pl.join (psOf (fstOf l) (sndOf l) l.length) = l := by
  have e := Jn_sep (fstOf l) (sndOf l) l.length (fun k hk => (h k (by omega)).2 hk) l.length (Nat.le_refl _)
  unfold Jn at e
  rw [e, psOf_self]

end Go.Proofs.Qxb6602346a
