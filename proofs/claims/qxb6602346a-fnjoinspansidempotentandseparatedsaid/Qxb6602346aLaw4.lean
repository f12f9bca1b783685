/-
  THE WALK OF THE LAW FnJoinSpansIdempotentAndSeparated.
-/
import Derived.Test.Qxb6602346aCopy
import Derived.Test.Qxb6602346aLawS
namespace Go.Proofs.Qxb6602346a
open Go.RowKit
set_option linter.unusedVariables false

set_option maxHeartbeats 400000 in
theorem bytes12 (a0 a1 : Option Addr) (len0 cap0 len1 cap1 : Nat) (w : World) (m0 : len0 ≤ maxLen) (m1 : len1 ≤ maxLen) :
    Calls Try.prog 12 #[.slice a0 len0 cap0, .slice a1 len1 cap1] w fun e w' => RetB True e ∧ w = w' := by
  unfold maxLen at m0 m1
  go_enter Try.func12, Try.ntmps12
  go_wp2
  all_goals go_ret
  all_goals exact ⟨⟨_, rfl, fun _ => trivial⟩, rfl⟩

set_option maxRecDepth 10000 in
set_option maxHeartbeats 400000 in
theorem law4_early (a0 a1 : Option Addr) (len0 cap0 len1 cap1 : Nat) (w : World) (m0 : len0 ≤ maxLen) (m1 : len1 ≤ maxLen) (h : ¬ (len0 ≤ 65536 ∧ len1 ≤ 65536 ∧ len0 = len1)) :
    Calls Try.prog 4 #[.slice a0 len0 cap0, .slice a1 len1 cap1] w fun e w' => e = .returned (.bool true) ∧ Below w.heap.size w w' := by
  unfold maxLen at m0 m1
  by_cases h0 : 65536 < len0
  · go_enter Try.func4, Try.ntmps4
    go_wp2_with fail
    refine (bytes12 a0 a1 len0 cap0 len1 cap1 _ (by unfold maxLen; omega) (by unfold maxLen; omega)).mono ?_
    rintro e w1 ⟨⟨v, rfl, _⟩, rfl⟩
    cases v
    all_goals
      go_wp2_with fail
      go_ret
      exact ⟨rfl, Below.refl _ _⟩
  · by_cases h1 : 65536 < len1
    · go_enter Try.func4, Try.ntmps4
      go_wp2_with fail
      refine (bytes12 a0 a1 len0 cap0 len1 cap1 _ (by unfold maxLen; omega) (by unfold maxLen; omega)).mono ?_
      rintro e w1 ⟨⟨v, rfl, _⟩, rfl⟩
      cases v
      all_goals
        go_wp2_with fail
        go_ret
        exact ⟨rfl, Below.refl _ _⟩
    · have hne : ((len0 : Int) != (len1 : Int)) = true := by
        rw [bne_iff_ne]; omega
      clear h
      go_enter Try.func4, Try.ntmps4
      go_wp2_with fail
      refine (bytes12 a0 a1 len0 cap0 len1 cap1 _ (by unfold maxLen; omega) (by unfold maxLen; omega)).mono ?_
      rintro e w1 ⟨⟨v, rfl, _⟩, rfl⟩
      cases v
      all_goals
        go_wp2_with fail
        go_ret
        exact ⟨rfl, Below.refl _ _⟩

set_option maxHeartbeats 400000 in
/-- sameInts of two rows that read alike. -/
theorem same_rows (n g h c d : Nat) (f : Nat → Int) (w : World) (hn : n ≤ 65536) (hg : w.rowIs g 3 n (intCell f)) (hh : w.rowIs h 3 n (intCell f)) :
    Calls Try.prog 13 #[.slice (some ⟨g, 0, none⟩) n c, .slice (some ⟨h, 0, none⟩) n d] w fun e w' => e = .returned (.bool true) ∧ ∃ m, w' = w.drewN m := by
  have hnn : ((n : Int) != (n : Int)) = false := by simp
  go_enter Try.func13, Try.ntmps13
  go_wp2_with fail
  go_loopw [5] (fun i wr => ∃ (k m : Nat), k ≤ n ∧ i = .int .i64 k ∧ wr = w.drewN m) (fun i _ => n - (intOf i).toNat)
  case atStart => exact ⟨0, 0, Nat.zero_le _, rfl, rfl⟩
  case round =>
    obtain ⟨k, m, hk, rfl, rfl⟩ := hrel
    by_cases hlt : k < n
    · have c1 : w.cell? ⟨g, k, none⟩ = some (.int .i64 (f k)) := hg.cell hlt
      have c2 : w.cell? ⟨h, k, none⟩ = some (.int .i64 (f k)) := hh.cell hlt
      have hff : (f k != f k) = false := by simp
      go_wp2_with fail
      go_quiet (fail)
      go_wp2_with fail
      go_roundw
      case rel => exact ⟨k + 1, _, by omega, by go_num, rfl⟩
      case measure => simp [intOf]; omega
    · go_wp2_with fail
      go_ret
      exact ⟨rfl, _, rfl⟩

set_option maxRecDepth 10000 in
set_option maxHeartbeats 1600000 in
theorem law4_main (n : Nat) (a0 a1 : Option Addr) (cap0 cap1 : Nat) (S E : Nat → Int) (w : World) (hn : n ≤ 65536) (hS : Ints w a0 n S) (hE : Ints w a1 n E) :
    Calls Try.prog 4 #[.slice a0 n cap0, .slice a1 n cap1] w fun e w' => e = .returned (.bool true) ∧ Below w.heap.size w w' := by
  have hq0 := fun (w : World) (a : Option Addr) (n c : Nat) => run_neq_slice_nil_any (P := Try.prog) w 22 3 a n c 0 0 Try.underlying22
  have hmk := run_make_any (P := Try.prog) 22 3 _ 1 8 Try.underlying22 Try.info3 n (by omega) (by omega)
  go_enter Try.func4, Try.ntmps4
  go_wp2_with fail
  refine (bytes12 a0 a1 n cap0 n cap1 _ (by unfold maxLen; omega) (by unfold maxLen; omega)).mono ?_
  rintro e w1 ⟨⟨v, rfl, _⟩, rfl⟩
  cases v
  · go_wp2_with fail
    go_ret
    exact ⟨rfl, Below.refl _ _⟩
  go_wp2_with fail
  refine (asc_any n a0 a1 cap0 cap1 S E _ hn hS hE).mono ?_
  rintro e w1 ⟨⟨v, rfl, hasc⟩, m, rfl⟩
  cases v
  · go_wp2_with fail
    go_ret
    exact ⟨rfl, below_drewN (Below.refl _ _) _⟩
  have Hasc := hasc rfl
  clear hasc
  go_upto_if 36 with (fail)
  go_cut [0] (fun s0 wr => ∃ a2 c2, s0 = .slice a2 n c2 ∧ Ints wr a2 n S ∧ Ints wr a1 n E ∧ Below w.heap.size w wr)
  case first =>
    rcases a0 with _ | x
    · go_wp2_with (fail)
      go_meet
      case rel => exact ⟨_, _, rfl, hS, hE, below_drewN (Below.refl _ _) _⟩
    · go_upto_region 9 with (fail)
      refine wp_region_lit ?_
      iterate 6 go_step
      refine wpList_copy_ints (by rfl) (.tmp 40) (.tmp 41) 22 22 (by rfl) 3 Try.underlying22 (by kernel_rfl) w.heap.size n (some x) cap0 (by rfl) (by rfl) (fun _ => .int .i64 0) S (by simpa using World.rowIs_made (w.drewN m) (.int .i64 0) n 3) (ints_alloc hS) ?_
      intro w2 hr2 hb2
      go_wp2_with fail
      go_meet
      case rel => exact ⟨_, _, rfl, ints_row hr2, ints_below hE (((below_drewN (Below.refl _ _) m).alloc (Nat.le_refl _) _).trans hb2), ((below_drewN (Below.refl _ _) m).alloc (Nat.le_refl _) _).trans hb2⟩
  case rest =>
    obtain ⟨a2, c2, rfl, hS2, hE2, hbel2⟩ := hcut
    clear hS hE
    go_upto_if 45 with (fail)
    go_cut [1] (fun s1 wr => ∃ a3 c3, s1 = .slice a3 n c3 ∧ Ints wr a2 n S ∧ Ints wr a3 n E ∧ Below w.heap.size w wr)
    case first =>
      rcases a1 with _ | x
      · go_wp2_with (fail)
        go_meet
        case rel => exact ⟨_, _, rfl, hS2, hE2, hbel2⟩
      · go_upto_region 13 with (fail)
        refine wp_region_lit ?_
        iterate 6 go_step
        refine wpList_copy_ints (by rfl) (.tmp 49) (.tmp 50) 22 22 (by rfl) 3 Try.underlying22 (by kernel_rfl) wc.heap.size n (some x) cap1 (by rfl) (by rfl) (fun _ => .int .i64 0) E (by simpa using World.rowIs_made wc (.int .i64 0) n 3) (ints_alloc hE2) ?_
        intro w3 hr3 hb3
        go_wp2_with fail
        have hb := ((Below.refl _ wc).alloc (Nat.le_refl _) (.cells (madeCells #[.int .i64 0] n) 3)).trans hb3
        go_meet
        case rel => exact ⟨_, _, rfl, ints_below hS2 hb, ints_row hr3, hbel2.trans (hb.mono hbel2.size)⟩
    case rest =>
      obtain ⟨a3, c3, rfl, hS3, hE3, hbel3⟩ := hcut
      clear hS2 hE2 hbel2
      go_wp2_with fail
      refine (zzjoin_any n a2 a3 c2 c3 S E _ hn hS3 hE3).mono ?_
      rintro e w4 ⟨g1, g2, m1, rfl, hm1, r1, r2, hb4, _, _⟩
      have hS4 := ints_below hS3 hb4
      have hE4 := ints_below hE3 hb4
      have hbel4 := hbel3.trans (hb4.mono hbel3.size)
      clear hS3 hE3 hbel3 hb4
      have hJ : Pl.join (psOf S E n) = Jn S E n := rfl
      rw [hJ] at hm1 r1 r2
      clear hJ
      have hmn := Jn_le S E n
      have hsep := Jn_sepd Hasc n (Nat.le_refl _)
      have hagain := join_again hsep
      have hfirst := Jn_first S E n
      have hend := Jn_end S E n
      generalize Jn S E n = J at *
      rw [← hm1] at hmn hfirst hend hagain
      unfold Sepd at hsep
      rw [← hm1] at hsep
      have Hm1 : Hid (m1 = J.length) := hm1
      clear hm1
      rcases hS4 with rfl | ⟨b2, o2, rfl, hS4⟩
      · obtain rfl : m1 = 0 := by omega
        go_wp2_with fail
        go_ret
        exact ⟨rfl, hbel4⟩
      rcases hE4 with rfl | ⟨b3, o3, rfl, hE4⟩
      · obtain rfl : m1 = 0 := by omega
        go_wp2_with fail
        go_ret
        exact ⟨rfl, hbel4⟩
      by_cases h0 : n = 0
      · subst h0
        obtain rfl : m1 = 0 := by omega
        go_wp2_with fail
        go_ret
        exact ⟨rfl, hbel4⟩
      obtain ⟨hpos, hfst⟩ := hfirst (by omega)
      have hlst := hend (by omega)
      have n0 : ((n : Int) == 0) = false := by simp; omega
      have t0 : ((m1 : Int) == 0) = false := by simp; omega
      have t1 : ((m1 : Int) != (m1 : Int)) = false := by simp
      have t2 : decide (n < m1) = false := by simp; omega
      have x1 : w4.cell? ⟨g1, 0, none⟩ = some (.int .i64 (S 0)) := by rw [r1.cell hpos, intCell, hfst]
      have x2 : w4.cell? ⟨b2, o2, none⟩ = some (.int .i64 (S 0)) := hS4 0 (by omega)
      have x3 : w4.cell? ⟨g2, m1 - 1, none⟩ = some (.int .i64 (E (n - 1))) := by rw [r2.cell (by omega), intCell, hlst]
      have x4 : w4.cell? ⟨b3, o3 + (n - 1), none⟩ = some (.int .i64 (E (n - 1))) := hE4 (n - 1) (by omega)
      have y1 : (S 0 != S 0) = false := by simp
      have y2 : (E (n - 1) != E (n - 1)) = false := by simp
      clear hfirst hend hfst hlst
      have Hag := hagain
      have HA : Hid (Pl.join (psOf (fstOf J) (sndOf J) m1) = J) := hagain
      clear hagain Hag
      go_wp2_with fail
      go_quiet (fail)
      go_wp2_with fail
      go_loopw [9] (fun kv wr => ∃ (k q : Nat), k ≤ m1 ∧ kv = .int .i64 k ∧ wr = w4.drewN q) (fun kv _ => m1 - (intOf kv).toNat)
      case atStart => exact ⟨0, _, Nat.zero_le _, rfl, rfl⟩
      case round =>
        obtain ⟨k, q, hk, rfl, rfl⟩ := hrel
        by_cases hlt : k < m1
        · have z1 : w4.cell? ⟨g1, k, none⟩ = some (.int .i64 (fstOf J k)) := r1.cell hlt
          have z2 : w4.cell? ⟨g2, k, none⟩ = some (.int .i64 (sndOf J k)) := r2.cell hlt
          have s1 : ¬ sndOf J k < fstOf J k := by have := (hsep k hlt).1; omega
          by_cases h2 : k + 1 < m1
          · have z3 : w4.cell? ⟨g1, k + 1, none⟩ = some (.int .i64 (fstOf J (k + 1))) := r1.cell h2
            have s2 : ¬ fstOf J (k + 1) ≤ sndOf J k := by have := (hsep k hlt).2 h2; omega
            have h2' : decide ((k : Int) + 1 < (m1 : Int)) = true := by simp; omega
            clear hsep
            go_wp2_with fail
            go_quiet (fail)
            go_wp2_with fail
            go_quiet (fail)
            go_wp2_with fail
            go_roundw
            case rel => exact ⟨k + 1, _, by omega, by go_num, rfl⟩
            case measure => simp [intOf]; omega
          · have h2' : decide ((k : Int) + 1 < (m1 : Int)) = false := by simp; omega
            clear hsep
            go_wp2_with fail
            go_quiet (fail)
            go_wp2_with fail
            go_quiet (fail)
            go_wp2_with fail
            go_roundw
            case rel => exact ⟨k + 1, _, by omega, by go_num, rfl⟩
            case measure => simp [intOf]; omega
        · have e1 : k = m1 := by omega
          have HE1 : Hid (k = m1) := e1
          clear e1 hsep
          go_wp2_with fail
          refine (zzjoin_at m1 _ _ m1 m1 (fstOf J) (sndOf J) J _ HA (by omega) (ints_row (w := w4.drewN q) r1) (ints_row (w := w4.drewN q) r2)).mono ?_
          rintro e w5 ⟨g3, g4, m2, rfl, hm2, r3, r4, hb5, _, _⟩
          obtain rfl : m2 = m1 := hm2.trans Hm1.out.symm
          clear hm2
          have r1' := r1.of_block (hb5.block g1 r1.lt)
          have r2' := r2.of_block (hb5.block g2 r2.lt)
          have hbel5 := hbel4.trans ((below_drewN (Below.refl w4.heap.size w4) q).trans hb5 |>.mono hbel4.size)
          go_wp2_with fail
          refine (same_rows m2 g3 g1 m2 m2 (fstOf J) _ (by omega) r3 r1').mono ?_
          rintro e w6 ⟨rfl, q6, rfl⟩
          go_wp2_with fail
          refine (same_rows m2 g4 g2 m2 m2 (sndOf J) (w5.drewN q6) (by omega) r4 r2').mono ?_
          rintro e w7 ⟨rfl, q7, rfl⟩
          go_wp2_with fail
          go_ret
          exact ⟨rfl, below_drewN hbel5 _⟩

end Go.Proofs.Qxb6602346a
