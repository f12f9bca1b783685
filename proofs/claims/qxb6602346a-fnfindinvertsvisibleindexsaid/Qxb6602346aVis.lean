/-
  THE WALKS OF deletedDomain, offsetDeleted, visibleIndex, ZZVisibleIndex.
-/
import Derived.Test.Qxb6602346aCopy
import Derived.Test.Qxb6602346aMathV
namespace Go.Proofs.Qxb6602346a
open Go.RowKit
set_option linter.unusedVariables false

/-- A Bool is returned; where it is false, P holds. -/
def RetF (P : Prop) (e : Ending) : Prop := ∃ v, e = .returned (.bool v) ∧ (v = false → P)

theorem kept_step {S E : Nat → Int} {x : Int} {k : Nat} (H : ∀ t, t < k → S t ≤ x → E t ≤ x) (h : S k ≤ x → E k ≤ x) : ∀ t, t < k + 1 → S t ≤ x → E t ≤ x := by
  intro t ht hx
  by_cases h2 : t < k
  · exact H t h2 hx
  · obtain rfl : t = k := by omega
    exact h hx

set_option maxHeartbeats 400000 in
theorem dom_ne (n n' : Nat) (a a' : Option Addr) (ca cb : Nat) (w : World) (h : ¬ n = n') :
    Calls Try.prog 15 #[.slice a n ca, .slice a' n' cb] w fun e w' => e = .returned (.bool false) ∧ w = w' := by
  have hne : ((n : Int) != (n' : Int)) = true := by rw [bne_iff_ne]; omega
  go_enter Try.func15, Try.ntmps15
  go_wp2_with fail
  go_ret
  exact ⟨rfl, rfl⟩

set_option maxHeartbeats 400000 in
theorem dom_any (n : Nat) (a a' : Option Addr) (ca cb : Nat) (S E : Nat → Int) (w : World) (hn : n ≤ 65536) (hS : Ints w a n S) (hE : Ints w a' n E) :
    Calls Try.prog 15 #[.slice a n ca, .slice a' n cb] w fun e w' => RetB (Pl.Dom n S E) e ∧ ∃ m, w' = w.drewN m := by
  have hnn : ((n : Int) != (n : Int)) = false := by simp
  by_cases h0 : n = 0
  · subst h0
    go_enter Try.func15, Try.ntmps15
    go_wp2_with fail
    refine (asc_any 0 a a' ca cb S E _ (by omega) hS hE).mono ?_
    rintro e w1 ⟨⟨v, rfl, hv⟩, m, rfl⟩
    go_wp2_with fail
    go_ret
    exact ⟨⟨v, rfl, fun h => ⟨fun h => by omega, fun k hk => by omega⟩⟩, _, rfl⟩
  · have hp : decide (0 < n) = true := by simp; omega
    have hS' := hS
    obtain ⟨b, off, rfl, hc⟩ : ∃ b off, a = some ⟨b, off, none⟩ ∧ ∀ j, j < n → w.cell? ⟨b, off + j, none⟩ = some (.int .i64 (S j)) := by
      rcases hS with h | h
      · exact absurd h h0
      · exact h
    have c0 : w.cell? ⟨b, off, none⟩ = some (.int .i64 (S 0)) := hc 0 (by omega)
    by_cases hneg : S 0 < 0
    · go_enter Try.func15, Try.ntmps15
      go_wp2_with fail
      go_ret
      exact ⟨⟨false, rfl, fun h => by cases h⟩, 0, rfl⟩
    · go_enter Try.func15, Try.ntmps15
      go_wp2_with fail
      refine (asc_any n _ a' ca cb S E _ hn hS' hE).mono ?_
      rintro e w1 ⟨⟨v, rfl, hv⟩, m, rfl⟩
      go_wp2_with fail
      go_ret
      exact ⟨⟨v, rfl, fun h => ⟨fun _ => by omega, hv h⟩⟩, _, rfl⟩

set_option maxHeartbeats 400000 in
theorem del_none (a a' : Option Addr) (ca cb : Nat) (S E : Nat → Int) (x : Int) (w : World) :
    Calls Try.prog 16 #[.slice a 0 ca, .slice a' 0 cb, .int .i64 x] w fun e w' => RetF (Pl.Kept 0 S E x) e ∧ w = w' := by
  go_enter Try.func16, Try.ntmps16
  go_wp2_with fail
  refine wp_loop_rounds 1 ?_
  rw [rounds_succ]
  go_wp2_with fail
  go_ret
  exact ⟨⟨false, rfl, fun _ k hk => by omega⟩, rfl⟩

set_option maxHeartbeats 400000 in
theorem del_some (n ba oa ca bb ob cb : Nat) (S E : Nat → Int) (x : Int) (w : World) (hn : n ≤ 65536)
    (hS : ∀ j, j < n → w.cell? ⟨ba, oa + j, none⟩ = some (.int .i64 (S j))) (hE : ∀ j, j < n → w.cell? ⟨bb, ob + j, none⟩ = some (.int .i64 (E j))) :
    Calls Try.prog 16 #[.slice (some ⟨ba, oa, none⟩) n ca, .slice (some ⟨bb, ob, none⟩) n cb, .int .i64 x] w fun e w' => RetF (Pl.Kept n S E x) e ∧ w = w' := by
  go_enter Try.func16, Try.ntmps16
  go_wp2_with fail
  go_loop [7] (fun i => ∃ (k : Nat), k ≤ n ∧ i = .int .i64 k ∧ ∀ t, t < k → S t ≤ x → E t ≤ x)
    (fun i => n - (intOf i).toNat)
  case atStart => exact ⟨0, Nat.zero_le _, rfl, fun t h => by omega⟩
  case round =>
    obtain ⟨k, hk, rfl, H⟩ := hrel
    by_cases hlt : k < n
    · have hs := hS k hlt
      have he := hE k hlt
      by_cases h1 : S k ≤ x
      · by_cases h2 : x < E k
        · have HH : Hid (∀ t, t < k → S t ≤ x → E t ≤ x) := H
          clear H
          go_wp2_with fail
          go_ret
          exact ⟨⟨true, rfl, fun h => by cases h⟩, rfl⟩
        · have HH : Hid (∀ t, t < k → S t ≤ x → E t ≤ x) := H
          clear H
          go_wp2_with fail
          go_round
          case rel => exact ⟨k + 1, by omega, by go_num, kept_step HH.out (fun _ => by omega)⟩
          case measure => simp [intOf]; omega
      · have HH : Hid (∀ t, t < k → S t ≤ x → E t ≤ x) := H
        have h1' : decide (S k ≤ x) = false := by simp; omega
        clear H
        go_wp2_with fail
        go_round
        case rel => exact ⟨k + 1, by omega, by go_num, kept_step HH.out (fun h => by omega)⟩
        case measure => simp [intOf]; omega
    · have HH : Hid (∀ t, t < k → S t ≤ x → E t ≤ x) := H
      clear H
      go_wp2_with fail
      go_ret
      exact ⟨⟨false, rfl, fun _ t ht h => HH.out t (by omega) h⟩, rfl⟩

theorem del_any (n : Nat) (a a' : Option Addr) (ca cb : Nat) (S E : Nat → Int) (x : Int) (w : World) (hn : n ≤ 65536) (hS : Ints w a n S) (hE : Ints w a' n E) :
    Calls Try.prog 16 #[.slice a n ca, .slice a' n cb, .int .i64 x] w fun e w' => RetF (Pl.Kept n S E x) e ∧ w = w' := by
  rcases hS with rfl | ⟨b, o, rfl, hS⟩
  · exact del_none a a' ca cb S E x w
  · rcases hE with rfl | ⟨b', o', rfl, hE⟩
    · exact del_none _ a' ca cb S E x w
    · exact del_some n b o ca b' o' cb S E x w hn hS hE

end Go.Proofs.Qxb6602346a
