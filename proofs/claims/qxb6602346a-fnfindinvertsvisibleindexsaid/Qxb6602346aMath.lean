/-
  PLAIN MATHEMATICS FOR SEAT b6602346a: lists of pairs of integers. No Go in sight.
-/
namespace Go.Proofs.Qxb6602346a.Pl

/-- One step of joining: a span that continues the last one is merged into it. -/
def jstep (acc : List (Int × Int)) (s : Int × Int) : List (Int × Int) :=
  match acc.getLast? with
  | some l => if l.2 = s.1 then acc.dropLast ++ [(l.1, s.2)] else acc ++ [s]
  | none => acc ++ [s]

def join (ps : List (Int × Int)) : List (Int × Int) := ps.foldl jstep []

theorem jstep_nil (s : Int × Int) : jstep [] s = [s] := by simp [jstep]
theorem jstep_snoc (acc : List (Int × Int)) (l s : Int × Int) :
    jstep (acc ++ [l]) s = if l.2 = s.1 then acc ++ [(l.1, s.2)] else acc ++ [l] ++ [s] := by
  simp [jstep]

theorem snoc_cases {α : Type} (l : List α) : l = [] ∨ ∃ t x, l = t ++ [x] := by
  rcases List.eq_nil_or_concat l with h | ⟨t, x, h⟩
  · exact .inl h
  · exact .inr ⟨t, x, by simpa using h⟩

theorem join_snoc (ps : List (Int × Int)) (s : Int × Int) : join (ps ++ [s]) = jstep (join ps) s := by
  simp [join, List.foldl_append]

theorem jstep_form (acc : List (Int × Int)) (s : Int × Int) : ∃ t a, jstep acc s = t ++ [(a, s.2)] := by
  rcases snoc_cases acc with rfl | ⟨t, l, rfl⟩
  · exact ⟨[], s.1, by simp [jstep_nil]⟩
  · rw [jstep_snoc]
    split
    · exact ⟨t, l.1, rfl⟩
    · exact ⟨t ++ [l], s.1, rfl⟩

/-- The joined list of a list that is not empty ends where that list ends. -/
theorem join_last (ps : List (Int × Int)) (s : Int × Int) : ∃ t a, join (ps ++ [s]) = t ++ [(a, s.2)] := by
  rw [join_snoc]; exact jstep_form _ _

/-- Two neighbours that touch: no new span. -/
theorem join_touch (ps : List (Int × Int)) (p s : Int × Int) (h : p.2 = s.1) :
    (join (ps ++ [p] ++ [s])).length = (join (ps ++ [p])).length := by
  obtain ⟨t, a, e⟩ := join_last ps p
  rw [join_snoc, e, jstep_snoc, if_pos h]
  simp

theorem join_apart (ps : List (Int × Int)) (p s : Int × Int) (h : ¬ p.2 = s.1) :
    join (ps ++ [p] ++ [s]) = join (ps ++ [p]) ++ [s] := by
  obtain ⟨t, a, e⟩ := join_last ps p
  rw [join_snoc, e, jstep_snoc, if_neg h]

theorem join_length_le (ps : List (Int × Int)) : (join ps).length ≤ ps.length := by
  rcases snoc_cases ps with rfl | ⟨t, x, rfl⟩
  · simp [join]
  · suffices h : ∀ (l : List (Int × Int)) (acc : List (Int × Int)), (l.foldl jstep acc).length ≤ acc.length + l.length by
      simpa [join] using h (t ++ [x]) []
    intro l
    induction l with
    | nil => intro acc; simp
    | cons s l ih =>
      intro acc
      have h1 : (jstep acc s).length ≤ acc.length + 1 := by
        rcases snoc_cases acc with rfl | ⟨t, l, rfl⟩
        · simp [jstep_nil]
        · rw [jstep_snoc]; split <;> simp
      have h2 := ih (jstep acc s)
      simp only [List.foldl_cons, List.length_cons]
      omega

theorem fst_prefix (l : List (Int × Int)) : ∀ acc : List (Int × Int), acc.map Prod.fst <+: (l.foldl jstep acc).map Prod.fst := by
  induction l with
  | nil => intro acc; simp
  | cons s l ih =>
    intro acc
    refine List.IsPrefix.trans ?_ (ih (jstep acc s))
    rcases snoc_cases acc with rfl | ⟨t, l, rfl⟩
    · simp
    · rw [jstep_snoc]
      split <;> simp

theorem init_prefix (l : List (Int × Int)) : ∀ acc : List (Int × Int), acc.dropLast <+: (l.foldl jstep acc).dropLast := by
  induction l with
  | nil => intro acc; simp
  | cons s l ih =>
    intro acc
    refine List.IsPrefix.trans ?_ (ih (jstep acc s))
    rcases snoc_cases acc with rfl | ⟨t, l, rfl⟩
    · simp
    · rw [jstep_snoc]
      split <;> simp

theorem join_split (ps qs : List (Int × Int)) : join (ps ++ qs) = qs.foldl jstep (join ps) := by
  simp [join, List.foldl_append]

theorem join_fst_prefix (ps qs : List (Int × Int)) : (join ps).map Prod.fst <+: (join (ps ++ qs)).map Prod.fst := by
  rw [join_split]; exact fst_prefix _ _

theorem join_init_prefix (ps qs : List (Int × Int)) : (join ps).dropLast <+: (join (ps ++ qs)).dropLast := by
  rw [join_split]; exact init_prefix _ _

end Go.Proofs.Qxb6602346a.Pl
