/-
  SHARED BY THE THREE LAWS OF THIS SEAT: slices of bytes as functions of the index; the copy that each law takes first; the bound on the length.
-/
import Derived.Test.Qxb6602398aProg
import Derived.WalkKit
import Derived.BigQuiet
import Derived.Deep.OwnRows
import Derived.WalkSpells
import Derived.WalkSmall
namespace Go.Proofs.Qxb6602398a
open Go.RowKit
set_option linter.unusedVariables false

/-- The slice value with address a and length n reads as the bytes f 0, f 1, .. in the world w. -/
def Bts (w : World) (a : Option Addr) (n : Nat) (f : Nat → Int) : Prop :=
  n = 0 ∨ ∃ b off, a = some ⟨b, off, none⟩ ∧ ∀ j, j < n → w.cell? ⟨b, off + j, none⟩ = some (.int .u8 (f j))

/-- A Bool is returned; where it is true, P holds. -/
def RetB (P : Prop) (e : Ending) : Prop := ∃ v, e = .returned (.bool v) ∧ (v = true → P)

def byteCell (f : Nat → Int) (j : Nat) : Value := .int .u8 (f j)

theorem bts_below {w w' : World} {a : Option Addr} {n : Nat} {f : Nat → Int} (h : Bts w a n f) (hb : Below w.heap.size w w') : Bts w' a n f := by
  rcases h with h | ⟨b, off, rfl, hc⟩
  · exact .inl h
  · refine .inr ⟨b, off, rfl, fun j hj => ?_⟩
    rw [hb.cell (by exact block_lt_of_cell (hc j hj))]
    exact hc j hj

theorem bts_row {w : World} {g n : Nat} {f : Nat → Int} (h : w.rowIs g 5 n (byteCell f)) : Bts w (some ⟨g, 0, none⟩) n f :=
  .inr ⟨g, 0, rfl, fun j hj => by rw [Nat.zero_add]; exact h.cell hj⟩

theorem Try.info5 : (Try.prog.info? 5).map (fun i => (i.zero, i.size, i.bytes)) = some (some (.int .u8 0), 1, 1) := by kernel_rfl

theorem row_step {g : Nat → Int} {f : Nat → Value} {k : Nat} (h : ∀ j, j < k → f j = byteCell g j) : ∀ j, j < k + 1 → (fun j => if j = k then Value.int .u8 (g k) else f j) j = byteCell g j := by
  intro j hj
  dsimp only
  split
  · subst j; rfl
  · exact h j (by omega)

set_option maxHeartbeats 400000 in
theorem bytes6 (a0 : Option Addr) (len0 cap0 : Nat) (w : World) (m0 : len0 ≤ maxLen) :
    Calls Try.prog 6 #[.slice a0 len0 cap0] w fun e w' => RetB True e ∧ w = w' := by
  unfold maxLen at m0
  go_enter Try.func6, Try.ntmps6
  go_wp2
  all_goals go_ret
  all_goals exact ⟨⟨_, rfl, fun _ => trivial⟩, rfl⟩

set_option maxHeartbeats 400000 in
theorem bytes11 (a0 : Option Addr) (len0 cap0 : Nat) (w : World) (m0 : len0 ≤ maxLen) :
    Calls Try.prog 11 #[.slice a0 len0 cap0] w fun e w' => RetB True e ∧ w = w' := by
  unfold maxLen at m0
  go_enter Try.func11, Try.ntmps11
  go_wp2
  all_goals go_ret
  all_goals exact ⟨⟨_, rfl, fun _ => trivial⟩, rfl⟩

set_option maxHeartbeats 400000 in
theorem bytes14 (a0 : Option Addr) (len0 cap0 : Nat) (w : World) (m0 : len0 ≤ maxLen) :
    Calls Try.prog 14 #[.slice a0 len0 cap0] w fun e w' => RetB True e ∧ w = w' := by
  unfold maxLen at m0
  go_enter Try.func14, Try.ntmps14
  go_wp2
  all_goals go_ret
  all_goals exact ⟨⟨_, rfl, fun _ => trivial⟩, rfl⟩

set_option maxHeartbeats 400000 in
theorem clone_nil (w : World) :
    Calls Try.prog 7 #[.slice none 0 0] w fun e w' => e = .returned (.slice none 0 0) ∧ w = w' := by
  have hq := fun (w : World) (a : Option Addr) (n c : Nat) => Lib.run_eql_slice_nil (P := Try.prog) w 22 5 a n c 0 0 Try.underlying22
  go_enter Try.func7, Try.ntmps7
  go_wp2_with fail
  go_ret
  exact ⟨rfl, rfl⟩

set_option maxHeartbeats 400000 in
theorem clone_empty (x : Addr) (c : Nat) (w : World) :
    Calls Try.prog 7 #[.slice (some x) 0 c] w fun e w' => e = .returned (.slice (some ⟨w.heap.size, 0, none⟩) 0 0) ∧ Below w.heap.size w w' := by
  have hq := fun (w : World) (a : Option Addr) (n c : Nat) => Lib.run_eql_slice_nil (P := Try.prog) w 22 5 a n c 0 0 Try.underlying22
  have hmk : ∀ w, (Instr.makeSlice 22 (.int .i64 0) (.int .i64 0)).run Try.prog w = .ok (.slice (some ⟨w.heap.size, 0, none⟩) 0 0) (w.alloc (.cells (madeCells #[.int .u8 0] 0) 5)) :=
    run_make_row' (P := Try.prog) 22 5 _ 1 Try.underlying22 Try.info5 rfl .i64 .i64 0 (by omega) (by omega)
  go_enter Try.func7, Try.ntmps7
  go_wp2_with fail
  refine wp_loop_rounds 1 ?_
  rw [rounds_succ]
  go_wp2_with fail
  go_ret
  exact ⟨rfl, (Below.refl _ _).alloc (Nat.le_refl _) _⟩

set_option maxHeartbeats 400000 in
theorem clone_some (n b o c : Nat) (f : Nat → Int) (w : World) (hn : n ≤ 1048576) (hb : b < w.heap.size) (hf : ∀ j, j < n → w.cell? ⟨b, o + j, none⟩ = some (.int .u8 (f j))) :
    Calls Try.prog 7 #[.slice (some ⟨b, o, none⟩) n c] w fun e w' => e = .returned (.slice (some ⟨w.heap.size, 0, none⟩) n n) ∧ w'.rowIs w.heap.size 5 n (byteCell f) ∧ Below w.heap.size w w' := by
  have hq := fun (w : World) (a : Option Addr) (n c : Nat) => Lib.run_eql_slice_nil (P := Try.prog) w 22 5 a n c 0 0 Try.underlying22
  have hmk := run_make_row' (P := Try.prog) 22 5 _ 1 Try.underlying22 Try.info5 rfl .i64 .i64 n (by omega) (by omega)
  go_enter Try.func7, Try.ntmps7
  go_wp2_with fail
  go_loopw [4] (fun i wr => ∃ (k : Nat) (r : Nat → Value), k ≤ n ∧ i = .int .i64 k ∧ wr.rowIs w.heap.size 5 n r ∧ (∀ j, j < k → r j = byteCell f j) ∧ Below w.heap.size w wr)
    (fun i _ => n - (intOf i).toNat)
  case atStart => exact ⟨0, _, Nat.zero_le _, rfl, World.rowIs_made _ _ _ _, fun j hj => by omega, (Below.refl _ _).alloc (Nat.le_refl _) _⟩
  case round =>
    obtain ⟨k, r, hk, rfl, hr, hq, hbel⟩ := hrel
    by_cases hlt : k < n
    · have c0 : wr.cell? ⟨b, o + k, none⟩ = some (.int .u8 (f k)) := (hbel.cell (by exact hb)).trans (hf k hlt)
      have c1 : wr.cell? ⟨w.heap.size, k, none⟩ = some (r k) := hr.cell hlt
      have y1 := hr.frozen k
      go_wp2_with fail
      go_roundw
      case rel => exact ⟨k + 1, _, by omega, by go_num, hr.set _ _, row_step hq, hbel.setCell (Nat.le_refl _) _⟩
      case measure => simp [intOf]; omega
    · obtain rfl : k = n := by omega
      go_wp2_with fail
      go_ret
      exact ⟨rfl, hr.congr hq, hbel⟩

/-- The copy reads as the argument did. -/
theorem clone_any (n c : Nat) (a : Option Addr) (f : Nat → Int) (w : World) (hn : n ≤ 1048576) (h0 : a = none → n = 0 ∧ c = 0) (hf : Bts w a n f) :
    Calls Try.prog 7 #[.slice a n c] w fun e w' => ∃ a2 c2, e = .returned (.slice a2 n c2) ∧ Bts w' a2 n f ∧ Below w.heap.size w w' := by
  rcases a with _ | x
  · obtain ⟨rfl, rfl⟩ := h0 rfl
    refine (clone_nil w).mono ?_
    rintro e w1 ⟨rfl, rfl⟩
    exact ⟨_, _, rfl, .inl rfl, Below.refl _ _⟩
  · by_cases hn0 : n = 0
    · subst hn0
      refine (clone_empty x c w).mono ?_
      rintro e w1 ⟨rfl, hb⟩
      exact ⟨_, _, rfl, .inl rfl, hb⟩
    · rcases hf with h | ⟨b, o, hx, hf⟩
      · exact absurd h hn0
      · obtain rfl := Option.some.inj hx
        refine (clone_some n b o c f w hn (block_lt_of_cell (hf 0 (by omega))) hf).mono ?_
        rintro e w1 ⟨rfl, hr, hb⟩
        exact ⟨_, _, rfl, bts_row hr, hb⟩

end Go.Proofs.Qxb6602398a
