/-
  THE WALK OF THE LAW FnVisibleIndexCountsKeptOffsetsBefore.
-/
import Derived.Test.Qxb6602346aVis2
namespace Go.Proofs.Qxb6602346a
open Go.RowKit
set_option linter.unusedVariables false

set_option maxHeartbeats 400000 in
theorem bytes14 (a0 a1 : Option Addr) (len0 cap0 len1 cap1 : Nat) (x : Int) (w : World) (m0 : len0 ≤ maxLen) (m1 : len1 ≤ maxLen) :
    Calls Try.prog 14 #[.slice a0 len0 cap0, .slice a1 len1 cap1, .int .i64 x] w fun e w' => RetB True e ∧ w = w' := by
  unfold maxLen at m0 m1
  go_enter Try.func14, Try.ntmps14
  go_wp2
  all_goals go_ret
  all_goals exact ⟨⟨_, rfl, fun _ => trivial⟩, rfl⟩

set_option maxRecDepth 10000 in
set_option maxHeartbeats 400000 in
theorem law5_early (a0 a1 : Option Addr) (len0 cap0 len1 cap1 : Nat) (x : Int) (w : World) (m0 : len0 ≤ maxLen) (m1 : len1 ≤ maxLen) (h : ¬ (len0 ≤ 65536 ∧ len1 ≤ 65536 ∧ len0 = len1)) :
    Calls Try.prog 5 #[.slice a0 len0 cap0, .slice a1 len1 cap1, .int .i64 x] w fun e w' => e = .returned (.bool true) ∧ Below w.heap.size w w' := by
  unfold maxLen at m0 m1
  by_cases h0 : 65536 < len0
  · clear h
    go_enter Try.func5, Try.ntmps5
    go_wp2_with fail
    refine (bytes14 a0 a1 len0 cap0 len1 cap1 x _ (by unfold maxLen; omega) (by unfold maxLen; omega)).mono ?_
    rintro e w1 ⟨⟨v, rfl, _⟩, rfl⟩
    cases v
    all_goals
      go_wp2_with fail
      go_ret
      exact ⟨rfl, Below.refl _ _⟩
  by_cases h1 : 65536 < len1
  · clear h
    go_enter Try.func5, Try.ntmps5
    go_wp2_with fail
    refine (bytes14 a0 a1 len0 cap0 len1 cap1 x _ (by unfold maxLen; omega) (by unfold maxLen; omega)).mono ?_
    rintro e w1 ⟨⟨v, rfl, _⟩, rfl⟩
    cases v
    all_goals
      go_wp2_with fail
      go_ret
      exact ⟨rfl, Below.refl _ _⟩
  have hne : ¬ len0 = len1 := by omega
  clear h
  have Hne : Hid (¬ len0 = len1) := hne
  clear hne
  go_enter Try.func5, Try.ntmps5
  go_wp2_with fail
  refine (bytes14 a0 a1 len0 cap0 len1 cap1 x _ (by unfold maxLen; omega) (by unfold maxLen; omega)).mono ?_
  rintro e w1 ⟨⟨v, rfl, _⟩, rfl⟩
  cases v
  · go_wp2_with fail
    go_ret
    exact ⟨rfl, Below.refl _ _⟩
  · go_wp2_with fail
    refine (dom_ne len0 len1 a0 a1 cap0 cap1 _ Hne.out).mono ?_
    rintro e w1 ⟨rfl, rfl⟩
    go_wp2_with fail
    go_ret
    exact ⟨rfl, Below.refl _ _⟩

set_option maxRecDepth 10000 in
set_option maxHeartbeats 1600000 in
theorem law5_main (n : Nat) (a0 a1 : Option Addr) (cap0 cap1 : Nat) (S E : Nat → Int) (x : Int) (w : World) (hn : n ≤ 65536) (hS : Ints w a0 n S) (hE : Ints w a1 n E) (hx : x ≤ 9223372036854775807) :
    Calls Try.prog 5 #[.slice a0 n cap0, .slice a1 n cap1, .int .i64 x] w fun e w' => e = .returned (.bool true) ∧ Below w.heap.size w w' := by
  have hq0 := fun (w : World) (a : Option Addr) (n c : Nat) => run_neq_slice_nil_any (P := Try.prog) w 22 3 a n c 0 0 Try.underlying22
  have hmk := run_make_any (P := Try.prog) 22 3 _ 1 8 Try.underlying22 Try.info3 n (by omega) (by omega)
  by_cases h0 : x < 0
  · go_enter Try.func5, Try.ntmps5
    go_wp2_with fail
    refine (bytes14 a0 a1 n cap0 n cap1 x _ (by unfold maxLen; omega) (by unfold maxLen; omega)).mono ?_
    rintro e w1 ⟨⟨v, rfl, _⟩, rfl⟩
    cases v
    · go_wp2_with fail
      go_ret
      exact ⟨rfl, Below.refl _ _⟩
    go_wp2_with fail
    refine (dom_any n a0 a1 cap0 cap1 S E _ hn hS hE).mono ?_
    rintro e w1 ⟨⟨v, rfl, hv⟩, m, rfl⟩
    cases v
    all_goals
      go_wp2_with fail
      go_ret
      exact ⟨rfl, below_drewN (Below.refl _ _) _⟩
  go_enter Try.func5, Try.ntmps5
  go_wp2_with fail
  refine (bytes14 a0 a1 n cap0 n cap1 x _ (by unfold maxLen; omega) (by unfold maxLen; omega)).mono ?_
  rintro e w1 ⟨⟨v, rfl, _⟩, rfl⟩
  cases v
  · go_wp2_with fail
    go_ret
    exact ⟨rfl, Below.refl _ _⟩
  go_wp2_with fail
  refine (dom_any n a0 a1 cap0 cap1 S E _ hn hS hE).mono ?_
  rintro e w1 ⟨⟨v, rfl, hv⟩, m, rfl⟩
  cases v
  · go_wp2_with fail
    go_ret
    exact ⟨rfl, below_drewN (Below.refl _ _) _⟩
  have hdom := hv rfl
  have Hdom : Hid (Pl.Dom n S E) := hdom
  clear hdom hv
  go_wp2_with fail
  refine (del_any n a0 a1 cap0 cap1 S E x (w.drewN m) hn hS hE).mono ?_
  rintro e w1 ⟨⟨v, rfl, hv⟩, rfl⟩
  cases v
  rotate_left
  · go_wp2_with fail
    go_ret
    exact ⟨rfl, below_drewN (Below.refl _ _) _⟩
  have hkept := hv rfl
  have Hkept : Hid (Pl.Kept n S E x) := hkept
  clear hkept hv
  go_upto_if 38 with (fail)
  go_cut [0] (fun s0 wr => ∃ a2 c2, s0 = .slice a2 n c2 ∧ Ints wr a2 n S ∧ Ints wr a1 n E ∧ Below w.heap.size w wr)
  case first =>
    rcases a0 with _ | x
    · go_wp2_with (fail)
      go_meet
      case rel => exact ⟨_, _, rfl, hS, hE, below_drewN (Below.refl _ _) _⟩
    · go_upto_region 11 with (fail)
      refine wp_region_lit ?_
      iterate 6 go_step
      refine wpList_copy_ints (by rfl) (.tmp 42) (.tmp 43) 22 22 (by rfl) 3 Try.underlying22 (by kernel_rfl) w.heap.size n (some x) cap0 (by rfl) (by rfl) (fun _ => .int .i64 0) S (by simpa using World.rowIs_made (w.drewN m) (.int .i64 0) n 3) (ints_alloc hS) ?_
      intro w2 hr2 hb2
      go_wp2_with fail
      go_meet
      case rel => exact ⟨_, _, rfl, ints_row hr2, ints_below hE (((below_drewN (Below.refl _ _) m).alloc (Nat.le_refl _) _).trans hb2), ((below_drewN (Below.refl _ _) m).alloc (Nat.le_refl _) _).trans hb2⟩
  obtain ⟨a2, c2, rfl, hS2, hE2, hbel2⟩ := hcut
  clear hS hE
  go_upto_if 47 with (fail)
  go_cut [1] (fun s1 wr => ∃ a3 c3, s1 = .slice a3 n c3 ∧ Ints wr a2 n S ∧ Ints wr a3 n E ∧ Below w.heap.size w wr)
  case first =>
    rcases a1 with _ | x
    · go_wp2_with (fail)
      go_meet
      case rel => exact ⟨_, _, rfl, hS2, hE2, hbel2⟩
    · go_upto_region 15 with (fail)
      refine wp_region_lit ?_
      iterate 6 go_step
      refine wpList_copy_ints (by rfl) (.tmp 51) (.tmp 52) 22 22 (by rfl) 3 Try.underlying22 (by kernel_rfl) wc.heap.size n (some x) cap1 (by rfl) (by rfl) (fun _ => .int .i64 0) E (by simpa using World.rowIs_made wc (.int .i64 0) n 3) (ints_alloc hE2) ?_
      intro w3 hr3 hb3
      go_wp2_with fail
      have hb := ((Below.refl _ wc).alloc (Nat.le_refl _) (.cells (madeCells #[.int .i64 0] n) 3)).trans hb3
      go_meet
      case rel => exact ⟨_, _, rfl, ints_below hS2 hb, ints_row hr3, hbel2.trans (hb.mono hbel2.size)⟩
  obtain ⟨a3, c3, rfl, hS3, hE3, hbel3⟩ := hcut
  clear hS2 hE2 hbel2
  obtain ⟨c, hc⟩ := Pl.cut_exists Hdom.out x
  have Hc : Hid (Pl.CutAt n S x c) := hc
  clear hc
  have hS3k := hS3
  have hE3k := hE3
  have hend : Pl.sz S E (min n c) = Pl.sz S E c := by rw [Nat.min_eq_right Hc.out.1]
  have Hend : Hid _ := hend
  clear hend
  rcases hS3 with rfl | ⟨b2, o2, rfl, hS3⟩
  · have hsz : Pl.sz S E c = 0 := by rw [← Hend.out, Nat.zero_min]; rfl
    have Hsz : Hid _ := hsz
    clear hsz
    go_wp2_with fail
    refine wp_loop_rounds 1 ?_
    rw [rounds_succ]
    go_wp2_with fail
    refine (zzvis_any 0 c a2 a3 c2 c3 S E x _ hn hS3k hE3k Hdom.out Hkept.out Hc.out (by omega) hx).mono ?_
    rintro e w4 ⟨rfl, hb4⟩
    rw [Hsz.out]
    have hxx : (x - 0 == x - 0) = true := by simp
    go_wp2_with fail
    go_ret
    exact ⟨rfl, hbel3.trans (hb4.mono hbel3.size)⟩
  rcases hE3 with rfl | ⟨b3, o3, rfl, hE3⟩
  · have hsz : Pl.sz S E c = 0 := by rw [← Hend.out, Nat.zero_min]; rfl
    have Hsz : Hid _ := hsz
    clear hsz hS3
    go_wp2_with fail
    refine wp_loop_rounds 1 ?_
    rw [rounds_succ]
    go_wp2_with fail
    refine (zzvis_any 0 c _ a3 c2 c3 S E x _ hn hS3k hE3k Hdom.out Hkept.out Hc.out (by omega) hx).mono ?_
    rintro e w4 ⟨rfl, hb4⟩
    rw [Hsz.out]
    go_wp2_with fail
    go_ret
    exact ⟨rfl, hbel3.trans (hb4.mono hbel3.size)⟩
  have HS3 : Hid _ := hS3
  have HE3 : Hid _ := hE3
  clear hS3 hE3
  go_wp2_with fail
  go_loop [9, 10, 11] (fun bv kv hv => ∃ (k : Nat), k ≤ n ∧ kv = .int .i64 k ∧ bv = .int .i64 (Pl.sz S E (min k c)))
    (fun _ kv _ => n - (intOf kv).toNat)
  case atStart => exact ⟨0, Nat.zero_le _, rfl, by rw [Nat.zero_min]; rfl⟩
  case round =>
    obtain ⟨k, hk, rfl, rfl⟩ := hrel
    by_cases hlt : k < n
    · have cS := HS3.out k hlt
      have cE := HE3.out k hlt
      have step := Pl.before_step Hdom.out Hkept.out Hc.out hlt
      have b1 := Pl.kept_sz Hdom.out Hkept.out (by omega) Hc.out (show min k c ≤ c from Nat.min_le_right _ _)
      have b2 := Pl.kept_sz Hdom.out Hkept.out (by omega) Hc.out (show min (k + 1) c ≤ c from Nat.min_le_right _ _)
      have b3 := Pl.dom_nonneg Hdom.out hlt
      have b4 := (Hdom.out.2 k hlt).1
      have Hstep : Hid _ := step
      generalize Pl.sz S E (min k c) = z at *
      generalize hz' : Pl.sz S E (min (k + 1) c) = z' at *
      have Hz' : Hid _ := hz'
      clear step hz'
      obtain ⟨b5, b6⟩ := b1
      obtain ⟨b7, b8⟩ := b2
      by_cases h1 : x < E k
      · have e1 : (if x < E k then x else E k) = x := if_pos h1
        by_cases h2 : S k < x
        · have e2 := Hstep.out
          rw [e1, if_pos h2] at e2
          have E2 : Hid _ := e2
          rw [e2] at b7 b8
          clear e1 e2
          go_wp2_with fail
          go_round
          case rel => exact ⟨k + 1, by omega, by go_num, by rw [Hz'.out, E2.out]⟩
          case measure => simp [intOf]; omega
        · have e2 := Hstep.out
          rw [e1, if_neg h2] at e2
          have E2 : Hid _ := e2
          clear e1 e2
          go_wp2_with fail
          go_round
          case rel => exact ⟨k + 1, by omega, by go_num, by rw [Hz'.out, E2.out]⟩
          case measure => simp [intOf]; omega
      · have e1 : (if x < E k then x else E k) = E k := if_neg h1
        by_cases h2 : S k < E k
        · have e2 := Hstep.out
          rw [e1, if_pos h2] at e2
          have E2 : Hid _ := e2
          rw [e2] at b7 b8
          clear e1 e2
          go_wp2_with fail
          go_round
          case rel => exact ⟨k + 1, by omega, by go_num, by rw [Hz'.out, E2.out]⟩
          case measure => simp [intOf]; omega
        · have e2 := Hstep.out
          rw [e1, if_neg h2] at e2
          have E2 : Hid _ := e2
          clear e1 e2
          go_wp2_with fail
          go_round
          case rel => exact ⟨k + 1, by omega, by go_num, by rw [Hz'.out, E2.out]⟩
          case measure => simp [intOf]; omega
    · obtain rfl : k = n := by omega
      have b1 := Pl.kept_sz Hdom.out Hkept.out (by omega) Hc.out (Nat.le_refl c)
      obtain ⟨b5, b6⟩ := b1
      rw [Hend.out]
      go_wp2_with fail
      refine (zzvis_any k c _ _ c2 c3 S E x _ hn hS3k hE3k Hdom.out Hkept.out Hc.out (by omega) hx).mono ?_
      rintro e w4 ⟨rfl, hb4⟩
      go_wp2_with fail
      go_ret
      exact ⟨rfl, hbel3.trans (hb4.mono hbel3.size)⟩

end Go.Proofs.Qxb6602346a
