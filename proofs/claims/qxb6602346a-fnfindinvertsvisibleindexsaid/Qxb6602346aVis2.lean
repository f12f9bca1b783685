/-
  THE WALKS OF visibleIndex, ZZVisibleIndex.
-/
import Derived.Test.Qxb6602346aVis
namespace Go.Proofs.Qxb6602346a
open Go.RowKit
set_option linter.unusedVariables false

set_option maxHeartbeats 400000 in
theorem vis_any (n c g h : Nat) (S E : Nat → Int) (x : Int) (w : World) (hn : n ≤ 65536) (hdom : Pl.Dom n S E) (hkept : Pl.Kept n S E x) (hc : Pl.CutAt n S x c) (h0 : 0 ≤ x) (hx : x ≤ 9223372036854775807)
    (hi : w.cell? ⟨h, 5, none⟩ = some (.slice (some ⟨g, 0, none⟩) n n)) (hr : w.rowIs g 41 (n * 2) (spanCell S E)) :
    Calls Try.prog 25 #[.pointer (some ⟨h, 0, none⟩), .int .i64 x] w fun e w' => e = .returned (.int .i64 (x - Pl.sz S E c)) ∧ Below w.heap.size w w' := by
  have hg := hr.lt
  have hh := block_lt_of_cell hi
  obtain ⟨hcn, hlo, hhi⟩ := hc
  have hks := fun k hk => Pl.kept_sz hdom hkept h0 ⟨hcn, hlo, hhi⟩ (k := k) hk
  go_enter Try.func25, Try.ntmps25
  go_wp2_with fail
  go_loopw [5, 14] (fun v i wr => ∃ (k : Nat), k ≤ c ∧ i = .int .i64 k ∧ v = .int .i64 (x - Pl.sz S E k) ∧ Below w.heap.size w wr)
    (fun _ i _ => n - (intOf i).toNat)
  case atStart => exact ⟨0, Nat.zero_le _, rfl, by simp [Pl.sz], Below.refl _ _⟩
  case round =>
    obtain ⟨k, hk, rfl, rfl, hbel⟩ := hrel
    by_cases hlt : k < c
    · have c0 : wr.cell? ⟨g, k * 2, none⟩ = some (.int .i64 (S k)) := by rw [hbel.cell (by exact hg), hr.cell (by omega), spanCell_even]
      have c1 : wr.cell? ⟨g, k * 2 + 1, none⟩ = some (.int .i64 (E k)) := by rw [hbel.cell (by exact hg), hr.cell (by omega), spanCell_odd]
      have b1 := hlo k hlt
      have b2 := hkept k (by omega) b1
      have b3 := Pl.dom_nonneg hdom (show k < n by omega)
      have b4 := (hdom.2 k (by omega)).1
      obtain ⟨b5, b6⟩ := hks k (by omega)
      obtain ⟨b7, b8⟩ := hks (k + 1) (by omega)
      have ez : Pl.sz S E (k + 1) = Pl.sz S E k + (E k - S k) := rfl
      rw [ez] at b7 b8
      have Ez : Hid _ := ez
      have Hks : Hid _ := hks
      have Hlo : Hid _ := hlo
      have Hhi : Hid _ := hhi
      clear ez hks hlo hhi hdom hkept
      have b9 : ¬ x < S k := by omega
      go_wp2_with fail
      go_roundw
      case rel => exact ⟨k + 1, by omega, by go_num, by rw [Ez.out]; go_num, hbel.alloc hbel.size _⟩
      case measure => simp [intOf]; omega
    · obtain rfl : k = c := by omega
      by_cases hcn' : k < n
      · have c0 : wr.cell? ⟨g, k * 2, none⟩ = some (.int .i64 (S k)) := by rw [hbel.cell (by exact hg), hr.cell (by omega), spanCell_even]
        have c1 : wr.cell? ⟨g, k * 2 + 1, none⟩ = some (.int .i64 (E k)) := by rw [hbel.cell (by exact hg), hr.cell (by omega), spanCell_odd]
        have b1 := hhi k (Nat.le_refl _) hcn'
        clear hks hlo hhi hdom hkept
        go_wp2_with fail
        go_ret
        exact ⟨rfl, hbel.alloc hbel.size _⟩
      · obtain rfl : k = n := by omega
        clear hks hlo hhi hdom hkept
        go_wp2_with fail
        go_ret
        exact ⟨rfl, hbel⟩

set_option maxHeartbeats 400000 in
theorem zzvis_any (n c : Nat) (a a' : Option Addr) (ca cb : Nat) (S E : Nat → Int) (x : Int) (w : World) (hn : n ≤ 65536) (hS : Ints w a n S) (hE : Ints w a' n E)
    (hdom : Pl.Dom n S E) (hkept : Pl.Kept n S E x) (hc : Pl.CutAt n S x c) (h0 : 0 ≤ x) (hx : x ≤ 9223372036854775807) :
    Calls Try.prog 17 #[.slice a n ca, .slice a' n cb, .int .i64 x] w fun e w' => e = .returned (.int .i64 (x - Pl.sz S E c)) ∧ Below w.heap.size w w' := by
  have Hdom : Hid _ := hdom
  have Hkept : Hid _ := hkept
  have Hc : Hid _ := hc
  clear hdom hkept hc
  go_enter Try.func17, Try.ntmps17
  go_wp2_with fail
  refine (spans_any n a a' ca cb S E _ hn hS hE).mono ?_
  rintro e w1 ⟨rfl, hrow1, hbel1⟩
  go_wp2_with fail
  refine (vis_any n c w.heap.size w1.heap.size S E x _ hn Hdom.out Hkept.out Hc.out h0 hx ?_ (hrow1.alloc _)).mono ?_
  · rw [cell_of_row _ _ _ _ _ _ (heap_alloc_new _ _)]; rfl
  · rintro e w2 ⟨rfl, hbel2⟩
    go_wp2_with fail
    go_ret
    exact ⟨rfl, (hbel1.alloc hbel1.size _).trans (hbel2.mono (by simp; have := hbel1.size; omega))⟩

end Go.Proofs.Qxb6602346a
