/-
  THE WALKS OF THE READING FUNCTIONS: spansAscending.
-/
import Derived.Test.Qxb6602346aProg
import Derived.Test.Qxb6602346aMath
import Derived.WalkKit
import Derived.BigQuiet
namespace Go.Proofs.Qxb6602346a
open Go.RowKit
set_option linter.unusedVariables false

/-- The slice value with address a and length n reads as the numbers f 0, f 1, .. in the world w. -/
def Ints (w : World) (a : Option Addr) (n : Nat) (f : Nat → Int) : Prop :=
  n = 0 ∨ ∃ b off, a = some ⟨b, off, none⟩ ∧ ∀ j, j < n → w.cell? ⟨b, off + j, none⟩ = some (.int .i64 (f j))

/-- Ascending spans, by index. -/
def Asc (n : Nat) (S E : Nat → Int) : Prop :=
  ∀ k, k < n → S k ≤ E k ∧ (k + 1 < n → E k ≤ S (k + 1))

theorem asc_step {n k : Nat} {S E : Nat → Int} (H : ∀ t, t < k → S t ≤ E t ∧ (t + 1 < n → E t ≤ S (t + 1)))
    (h1 : S k ≤ E k) (h2 : k + 1 < n → E k ≤ S (k + 1)) :
    ∀ t, t < k + 1 → S t ≤ E t ∧ (t + 1 < n → E t ≤ S (t + 1)) := by
  intro t ht
  by_cases h : t < k
  · exact H t h
  · obtain rfl : t = k := by omega
    exact ⟨h1, h2⟩

/-- A Bool is returned; where it is true, P holds. -/
def RetB (P : Prop) (e : Ending) : Prop := ∃ v, e = .returned (.bool v) ∧ (v = true → P)

set_option maxHeartbeats 400000 in
theorem asc_some (n ba oa ca bb ob cb : Nat) (S E : Nat → Int) (w : World) (hn : n ≤ 65536)
    (hS : ∀ j, j < n → w.cell? ⟨ba, oa + j, none⟩ = some (.int .i64 (S j))) (hE : ∀ j, j < n → w.cell? ⟨bb, ob + j, none⟩ = some (.int .i64 (E j))) :
    Calls Try.prog 10 #[.slice (some ⟨ba, oa, none⟩) n ca, .slice (some ⟨bb, ob, none⟩) n cb] w fun e w' =>
      RetB (Asc n S E) e ∧ ∃ m, w' = w.drewN m := by
  go_enter Try.func10, Try.ntmps10
  go_wp2
  go_loopw [5] (fun i wr => ∃ (k m : Nat), k ≤ n ∧ i = .int .i64 k ∧ wr = w.drewN m ∧ ∀ t, t < k → S t ≤ E t ∧ (t + 1 < n → E t ≤ S (t + 1)))
    (fun i _ => n - (intOf i).toNat)
  case atStart => exact ⟨0, 0, Nat.zero_le _, rfl, rfl, fun t h => by omega⟩
  case round =>
    obtain ⟨k, m, hk, rfl, rfl, H⟩ := hrel
    by_cases hlt : k < n
    · have hs := hS k hlt
      have he := hE k hlt
      go_wp2
      go_quiet (fail)
      by_cases h1 : S k ≤ E k
      · have h1' : ¬ E k < S k := by omega
        by_cases h2 : k + 1 < n
        · have hs1 := hS (k + 1) h2
          have h2' : decide ((k : Int) + 1 < (n : Int)) = true := by simp; omega
          go_wp2
          go_quiet (fail)
          go_wp2
          · go_ret
            exact ⟨⟨false, rfl, fun h => by cases h⟩, _, World.drewN_drewN ..⟩
          · have h3 : E k ≤ S (k + 1) := by assumption
            go_roundw
            case rel => exact ⟨k + 1, _, by omega, by go_num, rfl, fun t ht => asc_step H h1 (fun _ => h3) t ht⟩
            case measure => simp [intOf]; omega
        · have h2' : decide ((k : Int) + 1 < (n : Int)) = false := by simp; omega
          go_wp2
          go_quiet (fail)
          go_wp2
          go_roundw
          case rel => exact ⟨k + 1, _, by omega, by go_num, rfl, fun t ht => asc_step H h1 (fun h => absurd h h2) t ht⟩
          case measure => simp [intOf]; omega
      · go_wp2
        go_ret
        exact ⟨⟨false, rfl, fun h => by cases h⟩, _, rfl⟩
    · go_wp2
      go_ret
      exact ⟨⟨true, rfl, fun _ t ht => H t (by omega)⟩, _, rfl⟩

set_option maxHeartbeats 400000 in
theorem asc_none (a a' : Option Addr) (ca cb : Nat) (S E : Nat → Int) (w : World) :
    Calls Try.prog 10 #[.slice a 0 ca, .slice a' 0 cb] w fun e w' =>
      RetB (Asc 0 S E) e ∧ ∃ m, w' = w.drewN m := by
  go_enter Try.func10, Try.ntmps10
  go_wp2
  refine wp_loop_rounds 1 ?_
  rw [rounds_succ]
  go_wp2
  go_ret
  exact ⟨⟨true, rfl, fun _ t ht => by omega⟩, 0, rfl⟩

theorem asc_any (n : Nat) (a a' : Option Addr) (ca cb : Nat) (S E : Nat → Int) (w : World) (hn : n ≤ 65536) (hS : Ints w a n S) (hE : Ints w a' n E) :
    Calls Try.prog 10 #[.slice a n ca, .slice a' n cb] w fun e w' => RetB (Asc n S E) e ∧ ∃ m, w' = w.drewN m := by
  rcases hS with rfl | ⟨b, o, rfl, hS⟩
  · exact asc_none a a' ca cb S E w
  · rcases hE with rfl | ⟨b', o', rfl, hE⟩
    · exact asc_none _ a' ca cb S E w
    · exact asc_some n b o ca b' o' cb S E w hn hS hE

end Go.Proofs.Qxb6602346a
