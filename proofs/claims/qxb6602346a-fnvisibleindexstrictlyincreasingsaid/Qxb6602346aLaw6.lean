/-
  THE WALK OF THE LAW FnVisibleIndexStrictlyIncreasing.
-/
import Derived.Test.Qxb6602346aVis2
namespace Go.Proofs.Qxb6602346a
open Go.RowKit
set_option linter.unusedVariables false

set_option maxHeartbeats 400000 in
theorem bytes18 (a0 a1 : Option Addr) (len0 cap0 len1 cap1 : Nat) (x y : Int) (w : World) (m0 : len0 ≤ maxLen) (m1 : len1 ≤ maxLen) :
    Calls Try.prog 18 #[.slice a0 len0 cap0, .slice a1 len1 cap1, .int .i64 x, .int .i64 y] w fun e w' => RetB True e ∧ w = w' := by
  unfold maxLen at m0 m1
  go_enter Try.func18, Try.ntmps18
  go_wp2
  all_goals go_ret
  all_goals exact ⟨⟨_, rfl, fun _ => trivial⟩, rfl⟩

set_option maxRecDepth 10000 in
set_option maxHeartbeats 400000 in
theorem law6_early (a0 a1 : Option Addr) (len0 cap0 len1 cap1 : Nat) (x y : Int) (w : World) (m0 : len0 ≤ maxLen) (m1 : len1 ≤ maxLen) (h : ¬ (len0 ≤ 65536 ∧ len1 ≤ 65536 ∧ len0 = len1)) :
    Calls Try.prog 6 #[.slice a0 len0 cap0, .slice a1 len1 cap1, .int .i64 x, .int .i64 y] w fun e w' => e = .returned (.bool true) ∧ Below w.heap.size w w' := by
  unfold maxLen at m0 m1
  by_cases h0 : 65536 < len0
  · clear h
    go_enter Try.func6, Try.ntmps6
    go_wp2_with fail
    refine (bytes18 a0 a1 len0 cap0 len1 cap1 x y _ (by unfold maxLen; omega) (by unfold maxLen; omega)).mono ?_
    rintro e w1 ⟨⟨v, rfl, _⟩, rfl⟩
    cases v
    all_goals
      go_wp2_with fail
      go_ret
      exact ⟨rfl, Below.refl _ _⟩
  by_cases h1 : 65536 < len1
  · clear h
    go_enter Try.func6, Try.ntmps6
    go_wp2_with fail
    refine (bytes18 a0 a1 len0 cap0 len1 cap1 x y _ (by unfold maxLen; omega) (by unfold maxLen; omega)).mono ?_
    rintro e w1 ⟨⟨v, rfl, _⟩, rfl⟩
    cases v
    all_goals
      go_wp2_with fail
      go_ret
      exact ⟨rfl, Below.refl _ _⟩
  have hne : ¬ len0 = len1 := by omega
  clear h
  have Hne : Hid (¬ len0 = len1) := hne
  clear hne
  go_enter Try.func6, Try.ntmps6
  go_wp2_with fail
  refine (bytes18 a0 a1 len0 cap0 len1 cap1 x y _ (by unfold maxLen; omega) (by unfold maxLen; omega)).mono ?_
  rintro e w1 ⟨⟨v, rfl, _⟩, rfl⟩
  cases v
  · go_wp2_with fail
    go_ret
    exact ⟨rfl, Below.refl _ _⟩
  · go_wp2_with fail
    refine (dom_ne len0 len1 a0 a1 cap0 cap1 _ Hne.out).mono ?_
    rintro e w1 ⟨rfl, rfl⟩
    go_wp2_with fail
    go_ret
    exact ⟨rfl, Below.refl _ _⟩

set_option maxRecDepth 10000 in
set_option maxHeartbeats 1600000 in
theorem law6_main (n : Nat) (a0 a1 : Option Addr) (cap0 cap1 : Nat) (S E : Nat → Int) (x y : Int) (w : World) (hn : n ≤ 65536) (hS : Ints w a0 n S) (hE : Ints w a1 n E) (hx : x ≤ 9223372036854775807) (hy : y ≤ 9223372036854775807) :
    Calls Try.prog 6 #[.slice a0 n cap0, .slice a1 n cap1, .int .i64 x, .int .i64 y] w fun e w' => e = .returned (.bool true) ∧ Below w.heap.size w w' := by
  have hq0 := fun (w : World) (a : Option Addr) (n c : Nat) => run_neq_slice_nil_any (P := Try.prog) w 22 3 a n c 0 0 Try.underlying22
  have hmk := run_make_any (P := Try.prog) 22 3 _ 1 8 Try.underlying22 Try.info3 n (by omega) (by omega)
  by_cases h0 : x < 0
  · go_enter Try.func6, Try.ntmps6
    go_wp2_with fail
    refine (bytes18 a0 a1 n cap0 n cap1 x y _ (by unfold maxLen; omega) (by unfold maxLen; omega)).mono ?_
    rintro e w1 ⟨⟨v, rfl, _⟩, rfl⟩
    cases v
    · go_wp2_with fail
      go_ret
      exact ⟨rfl, Below.refl _ _⟩
    go_wp2_with fail
    refine (dom_any n a0 a1 cap0 cap1 S E _ hn hS hE).mono ?_
    rintro e w1 ⟨⟨v, rfl, hv⟩, m, rfl⟩
    cases v
    all_goals
      go_wp2_with fail
      go_ret
      exact ⟨rfl, below_drewN (Below.refl _ _) _⟩
  by_cases hxy : y ≤ x
  · go_enter Try.func6, Try.ntmps6
    go_wp2_with fail
    refine (bytes18 a0 a1 n cap0 n cap1 x y _ (by unfold maxLen; omega) (by unfold maxLen; omega)).mono ?_
    rintro e w1 ⟨⟨v, rfl, _⟩, rfl⟩
    cases v
    · go_wp2_with fail
      go_ret
      exact ⟨rfl, Below.refl _ _⟩
    go_wp2_with fail
    refine (dom_any n a0 a1 cap0 cap1 S E _ hn hS hE).mono ?_
    rintro e w1 ⟨⟨v, rfl, hv⟩, m, rfl⟩
    cases v
    all_goals
      go_wp2_with fail
      go_ret
      exact ⟨rfl, below_drewN (Below.refl _ _) _⟩
  go_enter Try.func6, Try.ntmps6
  go_wp2_with fail
  refine (bytes18 a0 a1 n cap0 n cap1 x y _ (by unfold maxLen; omega) (by unfold maxLen; omega)).mono ?_
  rintro e w1 ⟨⟨v, rfl, _⟩, rfl⟩
  cases v
  · go_wp2_with fail
    go_ret
    exact ⟨rfl, Below.refl _ _⟩
  go_wp2_with fail
  refine (dom_any n a0 a1 cap0 cap1 S E _ hn hS hE).mono ?_
  rintro e w1 ⟨⟨v, rfl, hv⟩, m, rfl⟩
  cases v
  · go_wp2_with fail
    go_ret
    exact ⟨rfl, below_drewN (Below.refl _ _) _⟩
  have hdom := hv rfl
  have Hdom : Hid (Pl.Dom n S E) := hdom
  clear hdom hv
  go_wp2_with fail
  refine (del_any n a0 a1 cap0 cap1 S E x (w.drewN m) hn hS hE).mono ?_
  rintro e w1 ⟨⟨v, rfl, hv⟩, rfl⟩
  cases v
  rotate_left
  · go_wp2_with fail
    go_ret
    exact ⟨rfl, below_drewN (Below.refl _ _) _⟩
  have hkept := hv rfl
  have Hkx : Hid (Pl.Kept n S E x) := hkept
  clear hkept hv
  go_wp2_with fail
  refine (del_any n a0 a1 cap0 cap1 S E y (w.drewN m) hn hS hE).mono ?_
  rintro e w1 ⟨⟨v, rfl, hv⟩, rfl⟩
  cases v
  rotate_left
  · go_wp2_with fail
    go_ret
    exact ⟨rfl, below_drewN (Below.refl _ _) _⟩
  have hkept := hv rfl
  have Hky : Hid (Pl.Kept n S E y) := hkept
  clear hkept hv
  go_upto_if 49 with (fail)
  go_cut [0] (fun s0 wr => ∃ a2 c2, s0 = .slice a2 n c2 ∧ Ints wr a2 n S ∧ Ints wr a1 n E ∧ Below w.heap.size w wr)
  case first =>
    rcases a0 with _ | x
    · go_wp2_with (fail)
      go_meet
      case rel => exact ⟨_, _, rfl, hS, hE, below_drewN (Below.refl _ _) _⟩
    · go_upto_region 13 with (fail)
      refine wp_region_lit ?_
      iterate 6 go_step
      refine wpList_copy_ints (by rfl) (.tmp 53) (.tmp 54) 22 22 (by rfl) 3 Try.underlying22 (by kernel_rfl) w.heap.size n (some x) cap0 (by rfl) (by rfl) (fun _ => .int .i64 0) S (by simpa using World.rowIs_made (w.drewN m) (.int .i64 0) n 3) (ints_alloc hS) ?_
      intro w2 hr2 hb2
      go_wp2_with fail
      go_meet
      case rel => exact ⟨_, _, rfl, ints_row hr2, ints_below hE (((below_drewN (Below.refl _ _) m).alloc (Nat.le_refl _) _).trans hb2), ((below_drewN (Below.refl _ _) m).alloc (Nat.le_refl _) _).trans hb2⟩
  obtain ⟨a2, c2, rfl, hS2, hE2, hbel2⟩ := hcut
  clear hS hE
  go_upto_if 58 with (fail)
  go_cut [1] (fun s1 wr => ∃ a3 c3, s1 = .slice a3 n c3 ∧ Ints wr a2 n S ∧ Ints wr a3 n E ∧ Below w.heap.size w wr)
  case first =>
    rcases a1 with _ | x
    · go_wp2_with (fail)
      go_meet
      case rel => exact ⟨_, _, rfl, hS2, hE2, hbel2⟩
    · go_upto_region 17 with (fail)
      refine wp_region_lit ?_
      iterate 6 go_step
      refine wpList_copy_ints (by rfl) (.tmp 62) (.tmp 63) 22 22 (by rfl) 3 Try.underlying22 (by kernel_rfl) wc.heap.size n (some x) cap1 (by rfl) (by rfl) (fun _ => .int .i64 0) E (by simpa using World.rowIs_made wc (.int .i64 0) n 3) (ints_alloc hE2) ?_
      intro w3 hr3 hb3
      go_wp2_with fail
      have hb := ((Below.refl _ wc).alloc (Nat.le_refl _) (.cells (madeCells #[.int .i64 0] n) 3)).trans hb3
      go_meet
      case rel => exact ⟨_, _, rfl, ints_below hS2 hb, ints_row hr3, hbel2.trans (hb.mono hbel2.size)⟩
  obtain ⟨a3, c3, rfl, hS3, hE3, hbel3⟩ := hcut
  clear hS2 hE2 hbel2
  obtain ⟨c, hc⟩ := Pl.cut_exists Hdom.out x
  obtain ⟨d, hd⟩ := Pl.cut_exists Hdom.out y
  have hst := Pl.vis_strict Hdom.out (by omega) Hky.out hc hd
  have hlx := Pl.kept_sz Hdom.out Hkx.out (by omega) hc (Nat.le_refl c)
  have hly := Pl.kept_sz Hdom.out Hky.out (by omega) hd (Nat.le_refl d)
  have Hc : Hid (Pl.CutAt n S x c) := hc
  have Hd : Hid (Pl.CutAt n S y d) := hd
  clear hc hd
  go_wp2_with fail
  refine (zzvis_any n c a2 a3 c2 c3 S E x _ hn hS3 hE3 Hdom.out Hkx.out Hc.out (by omega) hx).mono ?_
  rintro e w4 ⟨rfl, hb4⟩
  have hS4 := ints_below hS3 hb4
  have hE4 := ints_below hE3 hb4
  have hbel4 := hbel3.trans (hb4.mono hbel3.size)
  clear hS3 hE3 hbel3 hb4
  go_wp2_with fail
  refine (zzvis_any n d a2 a3 c2 c3 S E y _ hn hS4 hE4 Hdom.out Hky.out Hd.out (by omega) hy).mono ?_
  rintro e w5 ⟨rfl, hb5⟩
  have hbel5 := hbel4.trans (hb5.mono hbel4.size)
  generalize Pl.sz S E c = zx at *
  generalize Pl.sz S E d = zy at *
  obtain ⟨st1, st2⟩ := hst
  obtain ⟨l1, l2⟩ := hlx
  obtain ⟨l3, l4⟩ := hly
  have d1 : decide (0 ≤ x - zx) = true := by simp; omega
  have d2 : decide (x - zx ≤ x) = true := by simp; omega
  have d3 : decide (x - zx < y - zy) = true := by simp; omega
  have d4 : decide (y - zy - (x - zx) ≤ y - x) = true := by simp; omega
  go_wp2_with fail
  go_ret
  exact ⟨rfl, hbel5⟩

end Go.Proofs.Qxb6602346a
