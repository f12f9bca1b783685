/-
  THE WALK OF THE LAW FnJoinSpansMatchesBlockBoundaries.
-/
import Derived.Test.Qxb6602346aCopy
import Derived.Test.Qxb6602346aLawJ
namespace Go.Proofs.Qxb6602346a
open Go.RowKit
set_option linter.unusedVariables false

set_option maxHeartbeats 400000 in
theorem bytes9 (a0 a1 : Option Addr) (len0 cap0 len1 cap1 : Nat) (w : World) (m0 : len0 ≤ maxLen) (m1 : len1 ≤ maxLen) :
    Calls Try.prog 9 #[.slice a0 len0 cap0, .slice a1 len1 cap1] w fun e w' => RetB True e ∧ w = w' := by
  unfold maxLen at m0 m1
  go_enter Try.func9, Try.ntmps9
  go_wp2
  all_goals go_ret
  all_goals exact ⟨⟨_, rfl, fun _ => trivial⟩, rfl⟩

set_option maxRecDepth 10000 in
set_option maxHeartbeats 400000 in
theorem law3_early (a0 a1 : Option Addr) (len0 cap0 len1 cap1 : Nat) (w : World) (m0 : len0 ≤ maxLen) (m1 : len1 ≤ maxLen) (h : ¬ (len0 ≤ 65536 ∧ len1 ≤ 65536 ∧ len0 = len1)) :
    Calls Try.prog 3 #[.slice a0 len0 cap0, .slice a1 len1 cap1] w fun e w' => e = .returned (.bool true) ∧ Below w.heap.size w w' := by
  unfold maxLen at m0 m1
  by_cases h0 : 65536 < len0
  · go_enter Try.func3, Try.ntmps3
    go_wp2_with fail
    refine (bytes9 a0 a1 len0 cap0 len1 cap1 _ (by unfold maxLen; omega) (by unfold maxLen; omega)).mono ?_
    rintro e w1 ⟨⟨v, rfl, _⟩, rfl⟩
    cases v
    all_goals
      go_wp2_with fail
      go_ret
      exact ⟨rfl, Below.refl _ _⟩
  · by_cases h1 : 65536 < len1
    · go_enter Try.func3, Try.ntmps3
      go_wp2_with fail
      refine (bytes9 a0 a1 len0 cap0 len1 cap1 _ (by unfold maxLen; omega) (by unfold maxLen; omega)).mono ?_
      rintro e w1 ⟨⟨v, rfl, _⟩, rfl⟩
      cases v
      all_goals
        go_wp2_with fail
        go_ret
        exact ⟨rfl, Below.refl _ _⟩
    · have hne : ((len0 : Int) != (len1 : Int)) = true := by
        rw [bne_iff_ne]; omega
      clear h
      go_enter Try.func3, Try.ntmps3
      go_wp2_with fail
      refine (bytes9 a0 a1 len0 cap0 len1 cap1 _ (by unfold maxLen; omega) (by unfold maxLen; omega)).mono ?_
      rintro e w1 ⟨⟨v, rfl, _⟩, rfl⟩
      cases v
      all_goals
        go_wp2_with fail
        go_ret
        exact ⟨rfl, Below.refl _ _⟩

set_option maxRecDepth 10000 in
set_option maxHeartbeats 1600000 in
theorem law3_main (n : Nat) (a0 a1 : Option Addr) (cap0 cap1 : Nat) (S E : Nat → Int) (w : World) (hn : n ≤ 65536) (hS : Ints w a0 n S) (hE : Ints w a1 n E) :
    Calls Try.prog 3 #[.slice a0 n cap0, .slice a1 n cap1] w fun e w' => e = .returned (.bool true) ∧ Below w.heap.size w w' := by
  have hq0 := fun (w : World) (a : Option Addr) (n c : Nat) => run_neq_slice_nil_any (P := Try.prog) w 22 3 a n c 0 0 Try.underlying22
  have hmk := run_make_any (P := Try.prog) 22 3 _ 1 8 Try.underlying22 Try.info3 n (by omega) (by omega)
  go_enter Try.func3, Try.ntmps3
  go_wp2_with fail
  refine (bytes9 a0 a1 n cap0 n cap1 _ (by unfold maxLen; omega) (by unfold maxLen; omega)).mono ?_
  rintro e w1 ⟨⟨v, rfl, _⟩, rfl⟩
  cases v
  · go_wp2_with fail
    go_ret
    exact ⟨rfl, Below.refl _ _⟩
  go_wp2_with fail
  refine (asc_any n a0 a1 cap0 cap1 S E _ hn hS hE).mono ?_
  rintro e w1 ⟨⟨v, rfl, hasc⟩, m, rfl⟩
  cases v
  · go_wp2_with fail
    go_ret
    exact ⟨rfl, below_drewN (Below.refl _ _) _⟩
  have Hasc := hasc rfl
  clear hasc
  go_upto_if 37 with (fail)
  go_cut [0] (fun s0 wr => ∃ a2 c2, s0 = .slice a2 n c2 ∧ Ints wr a2 n S ∧ Ints wr a1 n E ∧ Below w.heap.size w wr)
  case first =>
    rcases a0 with _ | x
    · go_wp2_with (fail)
      go_meet
      case rel => exact ⟨_, _, rfl, hS, hE, below_drewN (Below.refl _ _) _⟩
    · go_upto_region 9 with (fail)
      refine wp_region_lit ?_
      iterate 6 go_step
      refine wpList_copy_ints (by rfl) (.tmp 41) (.tmp 42) 22 22 (by rfl) 3 Try.underlying22 (by kernel_rfl) w.heap.size n (some x) cap0 (by rfl) (by rfl) (fun _ => .int .i64 0) S (by simpa using World.rowIs_made (w.drewN m) (.int .i64 0) n 3) (ints_alloc hS) ?_
      intro w2 hr2 hb2
      go_wp2_with fail
      go_meet
      case rel => exact ⟨_, _, rfl, ints_row hr2, ints_below hE (((below_drewN (Below.refl _ _) m).alloc (Nat.le_refl _) _).trans hb2), ((below_drewN (Below.refl _ _) m).alloc (Nat.le_refl _) _).trans hb2⟩
  case rest =>
    obtain ⟨a2, c2, rfl, hS2, hE2, hbel2⟩ := hcut
    clear hS hE
    go_upto_if 46 with (fail)
    go_cut [1] (fun s1 wr => ∃ a3 c3, s1 = .slice a3 n c3 ∧ Ints wr a2 n S ∧ Ints wr a3 n E ∧ Below w.heap.size w wr)
    case first =>
      rcases a1 with _ | x
      · go_wp2_with (fail)
        go_meet
        case rel => exact ⟨_, _, rfl, hS2, hE2, hbel2⟩
      · go_upto_region 13 with (fail)
        refine wp_region_lit ?_
        iterate 6 go_step
        refine wpList_copy_ints (by rfl) (.tmp 50) (.tmp 51) 22 22 (by rfl) 3 Try.underlying22 (by kernel_rfl) wc.heap.size n (some x) cap1 (by rfl) (by rfl) (fun _ => .int .i64 0) E (by simpa using World.rowIs_made wc (.int .i64 0) n 3) (ints_alloc hE2) ?_
        intro w3 hr3 hb3
        go_wp2_with fail
        have hb := ((Below.refl _ wc).alloc (Nat.le_refl _) (.cells (madeCells #[.int .i64 0] n) 3)).trans hb3
        go_meet
        case rel => exact ⟨_, _, rfl, ints_below hS2 hb, ints_row hr3, hbel2.trans (hb.mono hbel2.size)⟩
    case rest =>
      obtain ⟨a3, c3, rfl, hS3, hE3, hbel3⟩ := hcut
      clear hS2 hE2 hbel2
      go_wp2_with fail
      refine (zzjoin_any n a2 a3 c2 c3 S E _ hn hS3 hE3).mono ?_
      rintro e w4 ⟨g1, g2, m1, rfl, hm1, r1, r2, hb4, _, _⟩
      have hS4 := ints_below hS3 hb4
      have hE4 := ints_below hE3 hb4
      have hbel4 := hbel3.trans (hb4.mono hbel3.size)
      clear hS3 hE3 hbel3 hb4
      have hJ : Pl.join (psOf S E n) = Jn S E n := rfl
      rw [hJ] at hm1 r1 r2
      clear hJ
      have hmn := Jn_le S E n
      rw [← hm1] at hmn
      have Hm1 : Hid (m1 = (Jn S E n).length) := hm1
      clear hm1
      rcases hS4 with rfl | ⟨b2, o2, rfl, hS4⟩
      · obtain rfl : m1 = 0 := by omega
        go_wp2_with fail
        refine wp_loop_rounds 1 ?_
        rw [rounds_succ]
        go_wp2_with fail
        refine wp_loop_rounds 1 ?_
        rw [rounds_succ]
        go_wp2_with fail
        go_ret
        exact ⟨rfl, hbel4⟩
      rcases hE4 with rfl | ⟨b3, o3, rfl, hE4⟩
      · obtain rfl : m1 = 0 := by omega
        go_wp2_with fail
        refine wp_loop_rounds 1 ?_
        rw [rounds_succ]
        go_wp2_with fail
        refine wp_loop_rounds 1 ?_
        rw [rounds_succ]
        go_wp2_with fail
        go_ret
        exact ⟨rfl, hbel4⟩
      go_wp2_with fail
      go_loopw [10, 11] (fun jv kv wr => ∃ (k j q : Nat), k ≤ n ∧ j ≤ k ∧ kv = .int .i64 k ∧ jv = .int .i64 j ∧ Hid (j = (Jn S E k).length) ∧ wr = w4.drewN q)
        (fun _ kv _ => n - (intOf kv).toNat)
      case atStart => exact ⟨0, 0, 0, Nat.zero_le _, Nat.le_refl _, rfl, rfl, rfl, rfl⟩
      case round =>
        obtain ⟨k, j, q, hk, hjk, rfl, rfl, hj, rfl⟩ := hrel
        by_cases hlt : k < n
        · have cS := hS4 k hlt
          by_cases hop : k = 0 ∨ ¬ E (k - 1) = S k
          · have L := opens_yes S E n k hlt hop
            rw [← hj.out, ← Hm1.out] at L
            obtain ⟨L1, L2, L3⟩ := L
            have L3' : Hid (j + 1 = (Jn S E (k + 1)).length) := L3.symm
            clear L3
            have cJ : w4.cell? ⟨g1, j, none⟩ = some (.int .i64 (S k)) := by rw [r1.cell L1, intCell, L2]
            clear L2
            have L1' : decide ((m1 : Int) ≤ (j : Int)) = false := by simp; omega
            by_cases hk0 : k = 0
            · have hk0' : ((k : Int) == 0) = true := by simp; omega
              clear hk0 hop
              go_wp2_with fail
              go_quiet (fail)
              go_wp2_with fail
              go_quiet (fail)
              go_wp2_with fail
              go_roundw
              case rel => exact ⟨k + 1, j + 1, _, by omega, by omega, by go_num, by go_num, L3', rfl⟩
              case measure => simp [intOf]; omega
            · have hk0' : ((k : Int) == 0) = false := by simp; omega
              have cE := hE4 (k - 1) (by omega)
              have hne : (E (k - 1) != S k) = true := by
                rcases hop with h | h
                · omega
                · simpa using h
              go_wp2_with fail
              go_quiet (fail)
              go_wp2_with fail
              go_quiet (fail)
              go_wp2_with fail
              go_roundw
              case rel => exact ⟨k + 1, j + 1, _, by omega, by omega, by go_num, by go_num, L3', rfl⟩
              case measure => simp [intOf]; omega
          · have hk0 : ¬ k = 0 := fun h => hop (.inl h)
            have heq : E (k - 1) = S k := Classical.byContradiction fun h => hop (.inr h)
            have L := opens_no S E k hk0 heq
            rw [← hj.out] at L
            have L3' : Hid (j = (Jn S E (k + 1)).length) := L.symm
            clear L hop
            have hk0' : ((k : Int) == 0) = false := by simp; omega
            have cE := hE4 (k - 1) (by omega)
            have hne : (E (k - 1) != S k) = false := by simpa using heq
            clear heq
            go_wp2_with fail
            go_quiet (fail)
            go_wp2_with fail
            go_roundw
            case rel => exact ⟨k + 1, j, _, by omega, by omega, by go_num, rfl, L3', rfl⟩
            case measure => simp [intOf]; omega
        · obtain rfl : k = n := by omega
          have hjm : j = m1 := hj.out.trans Hm1.out.symm
          subst hjm
          have hjj : ((j : Int) != (j : Int)) = false := by simp
          go_wp2_with fail
          clear hj hjk hk hlt
          go_loopw [10, 12] (fun jv iv wr => ∃ (i t q' : Nat), i ≤ k ∧ t ≤ i ∧ iv = .int .i64 i ∧ jv = .int .i64 t ∧ Hid (t = closed S E k i) ∧ wr = w4.drewN q')
            (fun _ iv _ => k - (intOf iv).toNat)
          case atStart => exact ⟨0, 0, _, Nat.zero_le _, Nat.le_refl _, rfl, rfl, (closed_zero S E k).symm, rfl⟩
          case round =>
            obtain ⟨i, t, q', hi, hti, rfl, rfl, ht, rfl⟩ := hrel
            by_cases hlt : i < k
            · have cE := hE4 i hlt
              by_cases hcl : i = k - 1 ∨ ¬ E i = S (i + 1)
              · have L := closes_yes S E k i hlt hcl
                rw [← ht.out, ← Hm1.out] at L
                obtain ⟨L1, L2, L3⟩ := L
                have L3' : Hid (t + 1 = closed S E k (i + 1)) := L3.symm
                clear L3
                have cJ : w4.cell? ⟨g2, t, none⟩ = some (.int .i64 (E i)) := by rw [r2.cell L1, intCell, L2]
                clear L2
                have L1' : decide ((j : Int) ≤ (t : Int)) = false := by simp; omega
                by_cases hk0 : i = k - 1
                · have hk0' : ((i : Int) == (k : Int) - 1) = true := by simp; omega
                  clear hk0 hcl
                  go_wp2_with fail
                  go_quiet (fail)
                  go_wp2_with fail
                  go_quiet (fail)
                  go_wp2_with fail
                  go_roundw
                  case rel => exact ⟨i + 1, t + 1, _, by omega, by omega, by go_num, by go_num, L3', rfl⟩
                  case measure => simp [intOf]; omega
                · have hk0' : ((i : Int) == (k : Int) - 1) = false := by simp; omega
                  have cS := hS4 (i + 1) (by omega)
                  have hne : (E i != S (i + 1)) = true := by
                    rcases hcl with h | h
                    · omega
                    · simpa using h
                  go_wp2_with fail
                  go_quiet (fail)
                  go_wp2_with fail
                  go_quiet (fail)
                  go_wp2_with fail
                  go_roundw
                  case rel => exact ⟨i + 1, t + 1, _, by omega, by omega, by go_num, by go_num, L3', rfl⟩
                  case measure => simp [intOf]; omega
              · have hk0 : ¬ i = k - 1 := fun h => hcl (.inl h)
                have heq : E i = S (i + 1) := Classical.byContradiction fun h => hcl (.inr h)
                have L := closes_no S E k i hlt hk0 heq
                rw [← ht.out] at L
                have L3' : Hid (t = closed S E k (i + 1)) := L.symm
                clear L hcl
                have hk0' : ((i : Int) == (k : Int) - 1) = false := by simp; omega
                have cS := hS4 (i + 1) (by omega)
                have hne : (E i != S (i + 1)) = false := by simpa using heq
                clear heq
                go_wp2_with fail
                go_quiet (fail)
                go_wp2_with fail
                go_roundw
                case rel => exact ⟨i + 1, t, _, by omega, by omega, by go_num, rfl, L3', rfl⟩
                case measure => simp [intOf]; omega
            · obtain rfl : i = k := by omega
              have htj : t = j := ht.out.trans ((closed_end S E i).trans Hm1.out.symm)
              subst htj
              go_wp2_with fail
              go_ret
              exact ⟨rfl, below_drewN hbel4 _⟩

end Go.Proofs.Qxb6602346a
