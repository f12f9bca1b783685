/-
  THE WALK OF joinSpans: joining in place.
-/
import Derived.Test.Qxb6602346aSpans
import Derived.WalkSmall
namespace Go.Proofs.Qxb6602346a
open Go.RowKit
set_option linter.unusedVariables false

/-- The pairs (s 0, e 0) .. (s (n-1), e (n-1)). -/
def psOf (s e : Nat → Int) : Nat → List (Int × Int)
  | 0 => []
  | n + 1 => psOf s e n ++ [(s n, e n)]

def fstOf (l : List (Int × Int)) (i : Nat) : Int := (l.getD i (0, 0)).1
def sndOf (l : List (Int × Int)) (i : Nat) : Int := (l.getD i (0, 0)).2

theorem getD_snoc_lt {L : List (Int × Int)} {x : Int × Int} {i : Nat} (h : i < L.length) : (L ++ [x]).getD i (0, 0) = L.getD i (0, 0) := by
  simp [List.getD, List.getElem?_append, h]

theorem getD_snoc_at (L : List (Int × Int)) (x : Int × Int) : (L ++ [x]).getD L.length (0, 0) = x := by simp [List.getD]

theorem cell_congr {L M : List (Int × Int)} {j : Nat} (h : L.getD (j / 2) (0, 0) = M.getD (j / 2) (0, 0)) : spanCell (fstOf L) (sndOf L) j = spanCell (fstOf M) (sndOf M) j := by
  unfold spanCell fstOf sndOf
  rw [h]

/-- A new span at the end. -/
theorem step_apart {L : List (Int × Int)} {m : Nat} {f : Nat → Value} {a b : Int} (hm : m = L.length) (hf : ∀ j, j < m * 2 → f j = spanCell (fstOf L) (sndOf L) j) :
    ∀ j, j < (m + 1) * 2 → (fun j => if j = m * 2 + 1 then Value.int .i64 b else (fun j => if j = m * 2 then Value.int .i64 a else f j) j) j = spanCell (fstOf (L ++ [(a, b)])) (sndOf (L ++ [(a, b)])) j := by
  subst hm
  intro j hj
  dsimp only
  split
  · subst j; rw [spanCell_odd, sndOf, getD_snoc_at]
  · split
    · subst j; rw [spanCell_even, fstOf, getD_snoc_at]
    · rw [hf j (by omega)]
      exact cell_congr (getD_snoc_lt (by omega)).symm

/-- The last span goes on. -/
theorem step_touch {L : List (Int × Int)} {l : Int × Int} {f : Nat → Value} {b : Int} (hf : ∀ j, j < (L.length + 1) * 2 → f j = spanCell (fstOf (L ++ [l])) (sndOf (L ++ [l])) j) :
    ∀ j, j < (L.length + 1) * 2 → (fun j => if j = L.length * 2 + 1 then Value.int .i64 b else f j) j = spanCell (fstOf (L ++ [(l.1, b)])) (sndOf (L ++ [(l.1, b)])) j := by
  intro j hj
  dsimp only
  split
  · subst j; rw [spanCell_odd, sndOf, getD_snoc_at]
  · rw [hf j hj]
    by_cases h : j = L.length * 2
    · subst j; rw [spanCell_even, spanCell_even, fstOf, fstOf, getD_snoc_at, getD_snoc_at]
    · exact cell_congr ((getD_snoc_lt (by omega)).trans (getD_snoc_lt (by omega)).symm)

theorem far_one {j a : Nat} {x v : Value} {f : Nat → Value} (h : j ≠ a) (e : f j = v) : (fun j => if j = a then x else f j) j = v := by
  dsimp only
  rw [if_neg h, e]
theorem far_two {j a b : Nat} {x y v : Value} {f : Nat → Value} (h : j ≠ a) (h' : j ≠ b) (e : f j = v) : (fun j => if j = a then x else (fun j => if j = b then y else f j) j) j = v := by
  dsimp only
  rw [if_neg h, if_neg h', e]

/-- What one round makes of the joined list. -/
theorem round_apart {S E : Nat → Int} {k m : Nat} {f : Nat → Value} (hm : m = (Pl.join (psOf S E k)).length) (hf : ∀ j, j < m * 2 → f j = spanCell (fstOf (Pl.join (psOf S E k))) (sndOf (Pl.join (psOf S E k))) j)
    (h : m = 0 ∨ ¬ sndOf (Pl.join (psOf S E k)) (m - 1) = S k) :
    m + 1 = (Pl.join (psOf S E (k + 1))).length ∧ ∀ j, j < (m + 1) * 2 → (fun j => if j = m * 2 + 1 then Value.int .i64 (E k) else (fun j => if j = m * 2 then Value.int .i64 (S k) else f j) j) j = spanCell (fstOf (Pl.join (psOf S E (k + 1)))) (sndOf (Pl.join (psOf S E (k + 1)))) j := by
  have e : Pl.join (psOf S E (k + 1)) = Pl.join (psOf S E k) ++ [(S k, E k)] := by
    rw [psOf, Pl.join_snoc]
    generalize Pl.join (psOf S E k) = L at *
    rcases Pl.snoc_cases L with rfl | ⟨t, l, rfl⟩
    · rw [Pl.jstep_nil]; rfl
    · rw [Pl.jstep_snoc]
      rcases h with h | h
      · subst h; simp at hm
      · rw [if_neg ?_]
        intro hl
        apply h
        subst hm
        rw [sndOf, List.length_append, List.length_singleton, Nat.add_sub_cancel, getD_snoc_at]
        exact hl
  rw [e]
  exact ⟨by rw [hm, List.length_append, List.length_singleton], step_apart hm hf⟩

theorem round_touch {S E : Nat → Int} {k m : Nat} {f : Nat → Value} (hm : m = (Pl.join (psOf S E k)).length) (hf : ∀ j, j < m * 2 → f j = spanCell (fstOf (Pl.join (psOf S E k))) (sndOf (Pl.join (psOf S E k))) j)
    (h0 : ¬ m = 0) (h : sndOf (Pl.join (psOf S E k)) (m - 1) = S k) :
    m = (Pl.join (psOf S E (k + 1))).length ∧ ∀ j, j < m * 2 → (fun j => if j = (m - 1) * 2 + 1 then Value.int .i64 (E k) else f j) j = spanCell (fstOf (Pl.join (psOf S E (k + 1)))) (sndOf (Pl.join (psOf S E (k + 1)))) j := by
  rw [psOf, Pl.join_snoc]
  generalize Pl.join (psOf S E k) = L at *
  rcases Pl.snoc_cases L with rfl | ⟨t, l, rfl⟩
  · exact absurd hm h0
  · subst hm
    rw [sndOf, List.length_append, List.length_singleton, Nat.add_sub_cancel, getD_snoc_at] at h
    rw [Pl.jstep_snoc, if_pos h]
    refine ⟨by rw [List.length_append, List.length_append]; rfl, ?_⟩
    rw [List.length_append, List.length_singleton, Nat.add_sub_cancel] at *
    exact step_touch hf

set_option maxHeartbeats 400000 in
theorem join_any (g n : Nat) (S E : Nat → Int) (w : World) (hn : n ≤ 65536) (hw : w.rowIs g 41 (n * 2) (spanCell S E)) :
    Calls Try.prog 23 #[.slice (some ⟨g, 0, none⟩) n n] w fun e w' =>
      ∃ m, e = .returned (.slice (some ⟨g, 0, none⟩) m n) ∧ m = (Pl.join (psOf S E n)).length ∧ Below g w w' ∧
        ∃ f, w'.rowIs g 41 (n * 2) f ∧ ∀ j, j < m * 2 → f j = spanCell (fstOf (Pl.join (psOf S E n))) (sndOf (Pl.join (psOf S E n))) j := by
  go_enter Try.func23, Try.ntmps23
  go_wp2
  go_loopw [3, 11] (fun v i wr => ∃ (k m : Nat) (f : Nat → Value), k ≤ n ∧ m ≤ k ∧ i = .int .i64 k ∧ v = .slice (some ⟨g, 0, none⟩) m n ∧ Hid (m = (Pl.join (psOf S E k)).length) ∧
      wr.rowIs g 41 (n * 2) f ∧ (∀ j, j < m * 2 → f j = spanCell (fstOf (Pl.join (psOf S E k))) (sndOf (Pl.join (psOf S E k))) j) ∧ (∀ j, k * 2 ≤ j → f j = spanCell S E j) ∧ Below g w wr)
    (fun _ i _ => n - (intOf i).toNat)
  case atStart => exact ⟨0, 0, _, Nat.zero_le _, Nat.le_refl _, rfl, rfl, rfl, hw, fun j hj => by omega, fun j hj => rfl, Below.refl _ _⟩
  case round =>
    obtain ⟨k, m, f, hk, hmk, rfl, rfl, hm, hrow, hf, hg, hbel⟩ := hrel
    by_cases hlt : k < n
    · have c0 : wr.cell? ⟨g, k * 2, none⟩ = some (.int .i64 (S k)) := by rw [hrow.cell (by omega), hg _ (by omega), spanCell_even]
      have c1 : wr.cell? ⟨g, k * 2 + 1, none⟩ = some (.int .i64 (E k)) := by rw [hrow.cell (by omega), hg _ (by omega), spanCell_odd]
      by_cases h0 : m = 0
      · subst h0
        have d0 : wr.cell? ⟨g, 0, none⟩ = some (f 0) := hrow.cell (by omega)
        have d1 : wr.cell? ⟨g, 1, none⟩ = some (f 1) := hrow.cell (by omega)
        have y0 := hrow.frozen 0
        have y1 := hrow.frozen 1
        have hgs := hrow.lt
        have hne : wr.heap.size ≠ g := by omega
        have hne' : g ≠ wr.heap.size := by omega
        go_wp2
        go_quiet (fail)
        go_wp2
        have R := round_apart hm.out hf (.inl rfl)
        go_roundw
        case rel => exact ⟨k + 1, 1, _, by omega, by omega, by go_num, rfl, R.1, (((hrow.alloc _).set 0 _).set 1 _).alloc _, R.2, fun j hj => far_two (by omega) (by omega) (hg j (by omega)), (((below_drewN (hbel.alloc (by omega) _) _).setCell (Nat.le_refl _) _).setCell (Nat.le_refl _) _).alloc (by simp; omega) _⟩
        case measure => simp [intOf]; omega
      · have hp : decide (0 < m) = true := by simp; omega
        have hm1 : 1 ≤ m := by omega
        have cm : wr.cell? ⟨g, (m - 1) * 2 + 1, none⟩ = some (.int .i64 (sndOf (Pl.join (psOf S E k)) (m - 1))) := by rw [hrow.cell (by omega), hf _ (by omega), spanCell_odd]
        have fm := hrow.frozen ((m - 1) * 2 + 1)
        have hgs := hrow.lt
        have d0 : wr.cell? ⟨g, m * 2, none⟩ = some (f (m * 2)) := hrow.cell (by omega)
        have d1 : wr.cell? ⟨g, m * 2 + 1, none⟩ = some (f (m * 2 + 1)) := hrow.cell (by omega)
        have y0 := hrow.frozen (m * 2)
        have y1 := hrow.frozen (m * 2 + 1)
        have hne : wr.heap.size ≠ g := by omega
        have hne' : g ≠ wr.heap.size := by omega
        go_wp2
        go_quiet (fail)
        go_wp2
        · have ht : sndOf (Pl.join (psOf S E k)) (m - 1) = S k := eq_of_beq (by assumption)
          have R := round_touch hm.out hf h0 ht
          go_roundw
          case rel => exact ⟨k + 1, m, _, by omega, by omega, by go_num, rfl, R.1, (hrow.alloc _).set _ _, R.2, fun j hj => far_one (by omega) (hg j (by omega)), (below_drewN (hbel.alloc (by omega) _) _).setCell (Nat.le_refl _) _⟩
          case measure => simp [intOf]; omega
        · have ht : ¬ sndOf (Pl.join (psOf S E k)) (m - 1) = S k := by
            have h : (sndOf (Pl.join (psOf S E k)) (m - 1) == S k) = false := by assumption
            simpa using h
          have R := round_apart hm.out hf (.inr ht)
          go_roundw
          case rel => exact ⟨k + 1, m + 1, _, by omega, by omega, by go_num, rfl, R.1, (((hrow.alloc _).set _ _).set _ _).alloc _, R.2, fun j hj => far_two (by omega) (by omega) (hg j (by omega)), (((below_drewN (hbel.alloc (by omega) _) _).setCell (Nat.le_refl _) _).setCell (Nat.le_refl _) _).alloc (by simp; omega) _⟩
          case measure => simp [intOf]; omega
    · obtain rfl : k = n := by omega
      go_wp2
      go_ret
      exact ⟨m, rfl, hm.out, hbel, f, hrow, hf⟩

end Go.Proofs.Qxb6602346a
