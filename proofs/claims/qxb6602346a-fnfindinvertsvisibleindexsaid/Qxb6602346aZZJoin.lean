/-
  THE WALK OF ZZJoinSpans.
-/
import Derived.Test.Qxb6602346aJoin
namespace Go.Proofs.Qxb6602346a
open Go.RowKit
set_option linter.unusedVariables false

theorem Try.info3 : (Try.prog.info? 3).map (fun i => (i.zero, i.size, i.bytes)) = some (some (.int .i64 0), 1, 8) := by kernel_rfl

/-- A row of ints. -/
def intCell (f : Nat → Int) (j : Nat) : Value := .int .i64 (f j)

theorem psOf_length (S E : Nat → Int) (n : Nat) : (psOf S E n).length = n := by
  induction n with
  | zero => rfl
  | succ n ih => simp [psOf, ih]

theorem row_step {g : Nat → Int} {f : Nat → Value} {k : Nat} (h : ∀ j, j < k → f j = intCell g j) : ∀ j, j < k + 1 → (fun j => if j = k then Value.int .i64 (g k) else f j) j = intCell g j := by
  intro j hj
  dsimp only
  split
  · subst j; rfl
  · exact h j (by omega)

set_option maxHeartbeats 400000 in
theorem zzjoin_at (n : Nat) (a a' : Option Addr) (ca cb : Nat) (S E : Nat → Int) (J : List (Int × Int)) (w : World) (hJ : Hid (Pl.join (psOf S E n) = J)) (hn : n ≤ 65536) (hS : Ints w a n S) (hE : Ints w a' n E) :
    Calls Try.prog 11 #[.slice a n ca, .slice a' n cb] w fun e w' =>
      ∃ g1 g2 m, e = .returned (.tuple #[.slice (some ⟨g1, 0, none⟩) m m, .slice (some ⟨g2, 0, none⟩) m m]) ∧ m = J.length ∧
        w'.rowIs g1 3 m (intCell (fstOf J)) ∧ w'.rowIs g2 3 m (intCell (sndOf J)) ∧ Below w.heap.size w w' ∧ w.heap.size ≤ g1 ∧ w.heap.size ≤ g2 := by
  have hlen := Pl.join_length_le (psOf S E n)
  rw [psOf_length, hJ.out] at hlen
  go_enter Try.func11, Try.ntmps11
  go_wp2_with fail
  refine (spans_any n a a' ca cb S E _ hn hS hE).mono ?_
  rintro e w1 ⟨rfl, hrow1, hbel1⟩
  go_wp2_with fail
  refine (join_any w.heap.size n S E _ hn hrow1).mono ?_
  rintro e w2 ⟨m, rfl, hm, hbel2, f, hrow2, hf⟩
  rw [hJ.out] at hm hf
  have hmn : m ≤ n := by omega
  have Hm : Hid (m = J.length) := hm
  clear hm hlen
  have hmk := run_make_any (P := Try.prog) 22 3 _ 1 8 Try.underlying22 Try.info3 m (by omega) (by omega)
  go_wp2_with fail
  have hg0 : w.heap.size < w2.heap.size := hrow2.lt
  go_loopw [9] (fun i wr => ∃ (k : Nat) (f1 f2 : Nat → Value), k ≤ m ∧ i = .int .i64 k ∧ wr.rowIs w.heap.size 41 (n * 2) f ∧ wr.rowIs w2.heap.size 3 m f1 ∧ wr.rowIs (w2.heap.size + 1) 3 m f2 ∧
      (∀ j, j < k → f1 j = intCell (fstOf J) j) ∧ (∀ j, j < k → f2 j = intCell (sndOf J) j) ∧ Below w.heap.size w wr)
    (fun i _ => m - (intOf i).toNat)
  case atStart =>
    have e1 := World.rowIs_made w2 (.int .i64 0) m 3
    have e2 := World.rowIs_made (w2.alloc (.cells (madeCells #[.int .i64 0] m) 3)) (.int .i64 0) m 3
    exact ⟨0, _, _, Nat.zero_le _, rfl, (hrow2.alloc _).alloc _, e1.alloc _, by simpa using e2, fun j hj => by omega, fun j hj => by omega, (hbel1.trans hbel2 |>.alloc (by omega) _).alloc (by simp; omega) _⟩
  case round =>
    obtain ⟨k, f1, f2, hk, rfl, r0, r1, r2, q1, q2, hbel⟩ := hrel
    by_cases hlt : k < m
    · have c0 : wr.cell? ⟨w.heap.size, k * 2, none⟩ = some (.int .i64 (fstOf J k)) := by rw [r0.cell (by omega), hf _ (by omega), spanCell_even]
      have c1 : wr.cell? ⟨w.heap.size, k * 2 + 1, none⟩ = some (.int .i64 (sndOf J k)) := by rw [r0.cell (by omega), hf _ (by omega), spanCell_odd]
      have d1 : wr.cell? ⟨w2.heap.size, k, none⟩ = some (f1 k) := r1.cell (by omega)
      have d2 : wr.cell? ⟨w2.heap.size + 1, k, none⟩ = some (f2 k) := r2.cell (by omega)
      have y1 := r1.frozen k
      have y2 := r2.frozen k
      have hne : w.heap.size ≠ w2.heap.size := by omega
      have hne' : w.heap.size ≠ w2.heap.size + 1 := by omega
      go_wp2_with fail
      go_roundw
      case rel => exact ⟨k + 1, _, _, by omega, by go_num, (r0.setOther (by simp; omega) _).setOther (by simp; omega) _, (r1.set _ _).setOther (by simp) _, (r2.setOther (by simp) _).set _ _, row_step q1, row_step q2, (hbel.setCell (by simp; omega) _).setCell (by simp; omega) _⟩
      case measure => simp [intOf]; omega
    · obtain rfl : k = m := by omega
      go_wp2_with fail
      go_ret2
      exact ⟨_, _, _, rfl, Hm.out, r1.congr q1, r2.congr q2, hbel, by omega, by omega⟩

theorem zzjoin_any (n : Nat) (a a' : Option Addr) (ca cb : Nat) (S E : Nat → Int) (w : World) (hn : n ≤ 65536) (hS : Ints w a n S) (hE : Ints w a' n E) :
    Calls Try.prog 11 #[.slice a n ca, .slice a' n cb] w fun e w' =>
      ∃ g1 g2 m, e = .returned (.tuple #[.slice (some ⟨g1, 0, none⟩) m m, .slice (some ⟨g2, 0, none⟩) m m]) ∧ m = (Pl.join (psOf S E n)).length ∧
        w'.rowIs g1 3 m (intCell (fstOf (Pl.join (psOf S E n)))) ∧ w'.rowIs g2 3 m (intCell (sndOf (Pl.join (psOf S E n)))) ∧ Below w.heap.size w w' ∧ w.heap.size ≤ g1 ∧ w.heap.size ≤ g2 :=
  zzjoin_at n a a' ca cb S E _ w rfl hn hS hE

end Go.Proofs.Qxb6602346a
