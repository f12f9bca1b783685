/-
  THE WALK OF zzSpans: starts and ends paired into a new row of spans.
-/
import Derived.Test.Qxb6602346aAsc
import Derived.Deep.OwnRows
namespace Go.Proofs.Qxb6602346a
open Go.RowKit
set_option linter.unusedVariables false

/-- The cells of a row of spans: start, end, start, end .. -/
def spanCell (s e : Nat → Int) (j : Nat) : Value := .int .i64 (if j % 2 = 0 then s (j / 2) else e (j / 2))

theorem Try.info41 : (Try.prog.info? 41).map (fun i => (i.zero, i.size, i.bytes)) = some (some (.agg #[.int .i64 0, .int .i64 0]), 2, 16) := by kernel_rfl
theorem Try.cells41 : Try.prog.cellsOf 41 = 2 := by kernel_rfl

theorem run_make_any {P : Program} (t e : TypeId) (z : Value) (size bytes : Nat) (ht : P.underlying t = some (.slice e)) (hinfo : (P.info? e).map (fun i => (i.zero, i.size, i.bytes)) = some (some z, size, bytes))
    (n : Nat) (hbytes : bytes * n ≤ 281474976710656) (h63 : n ≤ 9223372036854775807) (w : World) :
    (Instr.makeSlice t (.int .i64 (n : Int)) (.int .i64 (n : Int))).run P w = .ok (.slice (some ⟨w.heap.size, 0, none⟩) n n) (w.alloc (.cells (madeCells z.cells (n * size)) e)) := by
  obtain ⟨i, hi, hz, hs, hb⟩ := info_parts hinfo
  subst hs hb
  have hb' : (i.bytes : Int) * (n : Int) ≤ 281474976710656 := by
    have h : ((i.bytes * n : Nat) : Int) ≤ 281474976710656 := by omega
    rwa [Int.natCast_mul] at h
  have hr := run_make (P := P) w t e i z ht hi hz .i64 .i64 n n (by omega) (Int.le_refl _) hb' (by omega)
  simpa only [Int.toNat_natCast] using hr

theorem rowIs_new (w : World) (c : Array Value) (t : TypeId) (n : Nat) (h : c.size = n) : ∃ f, (w.alloc (.cells c t)).rowIs w.heap.size t n f := by
  subst h
  exact ⟨fun i => c.getD i (.int .i64 0), World.rowIs_alloc w c t _ fun i hi => by simp [Array.getD, hi]⟩

theorem spanCell_even (s e : Nat → Int) (k : Nat) : spanCell s e (k * 2) = .int .i64 (s k) := by
  unfold spanCell
  rw [if_pos (by omega), show k * 2 / 2 = k by omega]

theorem spanCell_odd (s e : Nat → Int) (k : Nat) : spanCell s e (k * 2 + 1) = .int .i64 (e k) := by
  unfold spanCell
  rw [if_neg (by omega), show (k * 2 + 1) / 2 = k by omega]

theorem spans_step {S E : Nat → Int} {k : Nat} {f : Nat → Value} (hf : ∀ j, j < k * 2 → f j = spanCell S E j) :
    ∀ j, j < (k + 1) * 2 → (fun j => if j = k * 2 + 1 then Value.int .i64 (E k) else (fun j => if j = k * 2 then Value.int .i64 (S k) else f j) j) j = spanCell S E j := by
  intro j hj
  dsimp only
  split
  · subst j; rw [spanCell_odd]
  · split
    · subst j; rw [spanCell_even]
    · exact hf j (by omega)

set_option maxHeartbeats 400000 in
theorem spans_some (n ba oa ca bb ob cb : Nat) (S E : Nat → Int) (w : World) (hn : n ≤ 65536) (hba : ba < w.heap.size) (hbb : bb < w.heap.size)
    (hS : ∀ j, j < n → w.cell? ⟨ba, oa + j, none⟩ = some (.int .i64 (S j))) (hE : ∀ j, j < n → w.cell? ⟨bb, ob + j, none⟩ = some (.int .i64 (E j))) :
    Calls Try.prog 24 #[.slice (some ⟨ba, oa, none⟩) n ca, .slice (some ⟨bb, ob, none⟩) n cb] w fun e w' =>
      e = .returned (.slice (some ⟨w.heap.size, 0, none⟩) n n) ∧ w'.rowIs w.heap.size 41 (n * 2) (spanCell S E) ∧ Below w.heap.size w w' := by
  have hmk := run_make_any (P := Try.prog) 37 41 _ 2 16 Try.underlying37 Try.info41 n (by omega) (by omega)
  go_enter Try.func24, Try.ntmps24
  go_wp2
  go_loopw [6] (fun i wr => ∃ (k : Nat) (f : Nat → Value), k ≤ n ∧ i = .int .i64 k ∧ wr.rowIs w.heap.size 41 (n * 2) f ∧ (∀ j, j < k * 2 → f j = spanCell S E j) ∧ Below w.heap.size w wr)
    (fun i _ => n - (intOf i).toNat)
  case atStart =>
    obtain ⟨f, hf⟩ := rowIs_new w (madeCells #[Value.int IntKind.i64 0, Value.int IntKind.i64 0] (n * 2)) 41 (n * 2) (size_madeCells _ _)
    exact ⟨0, f, Nat.zero_le _, rfl, hf, fun j hj => by omega, (Below.refl _ _).alloc (Nat.le_refl _) _⟩
  case round =>
    obtain ⟨k, f, hk, rfl, hrow, hf, hbel⟩ := hrel
    by_cases hlt : k < n
    · have hs : wr.cell? ⟨ba, oa + k, none⟩ = some (.int .i64 (S k)) := (hbel.cell (by exact hba)).trans (hS k hlt)
      have he : wr.cell? ⟨bb, ob + k, none⟩ = some (.int .i64 (E k)) := (hbel.cell (by exact hbb)).trans (hE k hlt)
      have c0 : wr.cell? ⟨w.heap.size, k * 2, none⟩ = some (f (k * 2)) := hrow.cell (by omega)
      have c1 : wr.cell? ⟨w.heap.size, k * 2 + 1, none⟩ = some (f (k * 2 + 1)) := hrow.cell (by omega)
      have z0 := hrow.frozen (k * 2)
      have z1 := hrow.frozen (k * 2 + 1)
      go_wp2
      go_region
      all_goals go_wp2
      all_goals
        go_roundw
        case rel => exact ⟨k + 1, _, by omega, by go_num, (hrow.set _ _).set _ _, spans_step hf, ((hbel.setCell (Nat.le_refl _) _).setCell (Nat.le_refl _) _).drew⟩
        case measure => simp [intOf]; omega
    · go_wp2
      go_ret
      obtain rfl : k = n := by omega
      exact ⟨rfl, hrow.congr hf, hbel⟩

set_option maxHeartbeats 400000 in
theorem spans_none (a a' : Option Addr) (ca cb : Nat) (S E : Nat → Int) (w : World) :
    Calls Try.prog 24 #[.slice a 0 ca, .slice a' 0 cb] w fun e w' =>
      e = .returned (.slice (some ⟨w.heap.size, 0, none⟩) 0 0) ∧ w'.rowIs w.heap.size 41 (0 * 2) (spanCell S E) ∧ Below w.heap.size w w' := by
  have hmk : ∀ w, (Instr.makeSlice 37 (.int .i64 0) (.int .i64 0)).run Try.prog w = .ok (.slice (some ⟨w.heap.size, 0, none⟩) 0 0) (w.alloc (.cells (madeCells #[.int .i64 0, .int .i64 0] (0 * 2)) 41)) :=
    run_make_any (P := Try.prog) 37 41 _ 2 16 Try.underlying37 Try.info41 0 (by omega) (by omega)
  go_enter Try.func24, Try.ntmps24
  go_wp2
  refine wp_loop_rounds 1 ?_
  rw [rounds_succ]
  go_wp2
  go_ret
  exact ⟨rfl, ⟨_, Deep.blk_alloc_new _ _, size_madeCells _ _, fun i h => by omega⟩, (Below.refl _ _).alloc (Nat.le_refl _) _⟩

theorem spans_any (n : Nat) (a a' : Option Addr) (ca cb : Nat) (S E : Nat → Int) (w : World) (hn : n ≤ 65536) (hS : Ints w a n S) (hE : Ints w a' n E) :
    Calls Try.prog 24 #[.slice a n ca, .slice a' n cb] w fun e w' =>
      e = .returned (.slice (some ⟨w.heap.size, 0, none⟩) n n) ∧ w'.rowIs w.heap.size 41 (n * 2) (spanCell S E) ∧ Below w.heap.size w w' := by
  rcases hS with rfl | ⟨b, o, rfl, hS⟩
  · exact spans_none a a' ca cb S E w
  · rcases hE with rfl | ⟨b', o', rfl, hE⟩
    · exact spans_none _ a' ca cb S E w
    · by_cases h0 : n = 0
      · subst h0; exact spans_none _ _ ca cb S E w
      · exact spans_some n b o ca b' o' cb S E w hn (block_lt_of_cell (hS 0 (by omega))) (block_lt_of_cell (hE 0 (by omega))) hS hE

end Go.Proofs.Qxb6602346a
