/-
  THE WALKS OF jiStrip AND jiEqual.
-/
import Derived.Test.Qxb6602398aOwn
import Derived.Test.Qxb6602398aStrip
namespace Go.Proofs.Qxb6602398a
open Go.RowKit
set_option linter.unusedVariables false

theorem st_next {f : Nat → Int} {k : Nat} {L o : List Int} {p q : Bool} (hl : Pl.st f k = L) (hs : Pl.ss f k = (p, q)) (hk : (if p = true then [f k] else if f k = 32 ∨ f k = 10 then [] else [f k]) = o) : Pl.st f (k + 1) = L ++ o := by
  rw [Pl.st, Pl.keep, hl, hs]
  dsimp only
  rw [hk]

theorem bne_f {c d : Int} (h : ¬ c = d) : (c == d) = false := by simpa using h

set_option maxRecDepth 10000 in
set_option maxHeartbeats 1600000 in
theorem strip_some (n b o c0 : Nat) (f : Nat → Int) (w : World) (hn : n ≤ 100000000) (hb : b < w.heap.size) (hf : ∀ j, j < n → w.cell? ⟨b, o + j, none⟩ = some (.int .u8 (f j))) :
    Calls Try.prog 13 #[.slice (some ⟨b, o, none⟩) n c0] w fun e w' => ∃ v, e = .returned v ∧ Own w.heap.size w' v (Pl.st f n) ∧ Below w.heap.size w w' := by
  have HF : Hid (∀ j, j < n → w.cell? ⟨b, o + j, none⟩ = some (.int .u8 (f j))) := hf
  clear hf
  obtain ⟨i0, hi, hz0, hz1, hz2⟩ := info_parts Try.info5
  go_enter Try.func13, Try.ntmps13
  go_wp2_with (at_make; refine wpList_make_own _ rfl _ _ 22 rfl w.heap.size 5 i0 (.int .u8 0) 1 Try.underlying22 hi hz0 hz1 _ _ _ n rfl rfl (by omega) (by rw [hz2]; omega) (by unfold maxLen; omega) (Nat.le_refl _) ?_)
  intro w1 hown1 hgrow1
  have hbel1 : Below w.heap.size w w1 := (Below.refl _ _).grown hgrow1 (Nat.le_refl _) (fun k h => by cases h)
  clear hgrow1 hi hz0 hz1 hz2
  go_wp2_with fail
  go_loopw [3, 4, 5, 6] (fun vv pv qv i wr => ∃ (k : Nat) (p q : Bool) (L : List Int), k ≤ n ∧ i = .int .i64 k ∧ pv = .bool p ∧ qv = .bool q ∧ L.length ≤ k ∧
      Hid (Pl.ss f k = (p, q)) ∧ Hid (Pl.st f k = L) ∧ Own w.heap.size wr vv L ∧ Below w.heap.size w wr)
    (fun _ _ _ i _ => n - (intOf i).toNat)
  case atStart => exact ⟨0, false, false, [], Nat.zero_le _, rfl, rfl, rfl, by simp, rfl, rfl, hown1, hbel1⟩
  case round =>
    clear hown1 hbel1
    obtain ⟨k, p, q, L, hk, rfl, rfl, rfl, hL, HS, HL, hown, hbel⟩ := hrel
    by_cases hlt : k < n
    · obtain ⟨c, hc⟩ : ∃ c, c = f k := ⟨_, rfl⟩
      have cc : wr.cell? ⟨b, o + k, none⟩ = some (.int .u8 c) := by rw [hbel.cell (by exact hb), HF.out k hlt, hc]
      have hnx := Pl.ss_next HS.out hc
      have HC : Hid (c = f k) := hc
      have HN : Hid (Pl.ss f (k + 1) = Pl.ssStep (p, q) c) := hnx
      clear hc hnx
      cases p
      · by_cases h32 : c = 32
        · subst h32
          go_wp2_with fail
          have hst := st_next HL.out HS.out (o := []) (by rw [← HC.out]; rfl)
          have HST : Hid _ := hst
          have hbd := Pl.st_length f (k + 1)
          rw [hst] at hbd
          clear hst
          go_roundw
          case rel => exact ⟨k + 1, false, q, _, by omega, by go_num, rfl, rfl, by exact hbd, HN.out.trans rfl, HST.out, (by rw [List.append_nil]; exact hown), hbel⟩
          case measure => simp [intOf]; omega
        by_cases h10 : c = 10
        · subst h10
          go_wp2_with fail
          have hst := st_next HL.out HS.out (o := []) (by rw [← HC.out]; rfl)
          have HST : Hid _ := hst
          have hbd := Pl.st_length f (k + 1)
          rw [hst] at hbd
          clear hst
          go_roundw
          case rel => exact ⟨k + 1, false, q, _, by omega, by go_num, rfl, rfl, by exact hbd, HN.out.trans rfl, HST.out, (by rw [List.append_nil]; exact hown), hbel⟩
          case measure => simp [intOf]; omega
        by_cases h34 : c = 34
        · subst h34
          clear h32 h10
          go_wp2_with (at_builtin; refine wpList_app (by rfl) _ _ (by rfl) w.heap.size w _ L [34] (by rfl) hown hbel (Nat.le_refl _) (by rfl) (by simp; omega) ?_; intro v1 w1 hown1 hbel1)
          have hst := st_next HL.out HS.out (o := [34]) (by rw [← HC.out]; rfl)
          have HST : Hid _ := hst
          have hbd := Pl.st_length f (k + 1)
          rw [hst] at hbd
          clear hst
          go_roundw
          case rel => exact ⟨k + 1, true, q, _, by omega, by go_num, rfl, rfl, by exact hbd, HN.out.trans rfl, HST.out, hown1, hbel1⟩
          case measure => simp [intOf]; omega
        have HKP : Hid ((if false = true then [f k] else if f k = 32 ∨ f k = 10 then [] else [f k]) = [c]) := by
          show _ = _
          rw [← HC.out, if_neg (by decide), if_neg (by omega)]
        have HN2 : Hid (Pl.ss f (k + 1) = (false, q)) := HN.out.trans (by simp [Pl.ssStep, h34])
        have e1 := bne_f h32
        have e2 := bne_f h10
        have e3 := bne_f h34
        clear h32 h10 h34
        go_wp2_with (at_builtin; refine wpList_app (by rfl) _ _ (by rfl) w.heap.size w _ L [c] (by rfl) hown hbel (Nat.le_refl _) (by rfl) (by simp; omega) ?_; intro v1 w1 hown1 hbel1)
        have hst := st_next HL.out HS.out HKP.out
        have HST : Hid _ := hst
        have hbd := Pl.st_length f (k + 1)
        rw [hst] at hbd
        clear hst
        go_roundw
        case rel => exact ⟨k + 1, false, q, _, by omega, by go_num, rfl, rfl, by exact hbd, HN2.out, HST.out, hown1, hbel1⟩
        case measure => simp [intOf]; omega
      · cases q
        · by_cases h92 : c = 92
          · subst h92
            go_wp2_with (at_builtin; refine wpList_app (by rfl) _ _ (by rfl) w.heap.size w _ L [92] (by rfl) hown hbel (Nat.le_refl _) (by rfl) (by simp; omega) ?_; intro v1 w1 hown1 hbel1)
            have hst := st_next HL.out HS.out (o := [92]) (by rw [← HC.out]; rfl)
            have HST : Hid _ := hst
            have hbd := Pl.st_length f (k + 1)
            rw [hst] at hbd
            clear hst
            go_roundw
            case rel => exact ⟨k + 1, true, true, _, by omega, by go_num, rfl, rfl, by exact hbd, HN.out.trans rfl, HST.out, hown1, hbel1⟩
            case measure => simp [intOf]; omega
          by_cases h34 : c = 34
          · subst h34
            clear h92
            go_wp2_with (at_builtin; refine wpList_app (by rfl) _ _ (by rfl) w.heap.size w _ L [34] (by rfl) hown hbel (Nat.le_refl _) (by rfl) (by simp; omega) ?_; intro v1 w1 hown1 hbel1)
            have hst := st_next HL.out HS.out (o := [34]) (by rw [← HC.out]; rfl)
            have HST : Hid _ := hst
            have hbd := Pl.st_length f (k + 1)
            rw [hst] at hbd
            clear hst
            go_roundw
            case rel => exact ⟨k + 1, false, false, _, by omega, by go_num, rfl, rfl, by exact hbd, HN.out.trans rfl, HST.out, hown1, hbel1⟩
            case measure => simp [intOf]; omega
          have HN2 : Hid (Pl.ss f (k + 1) = (true, false)) := HN.out.trans (by simp [Pl.ssStep, h92, h34])
          have e1 := bne_f h92
          have e2 := bne_f h34
          clear h92 h34
          go_wp2_with (at_builtin; refine wpList_app (by rfl) _ _ (by rfl) w.heap.size w _ L [c] (by rfl) hown hbel (Nat.le_refl _) (by rfl) (by simp; omega) ?_; intro v1 w1 hown1 hbel1)
          have hst := st_next HL.out HS.out (o := [c]) (by rw [← HC.out]; rfl)
          have HST : Hid _ := hst
          have hbd := Pl.st_length f (k + 1)
          rw [hst] at hbd
          clear hst
          go_roundw
          case rel => exact ⟨k + 1, true, false, _, by omega, by go_num, rfl, rfl, by exact hbd, HN2.out, HST.out, hown1, hbel1⟩
          case measure => simp [intOf]; omega
        · go_wp2_with (at_builtin; refine wpList_app (by rfl) _ _ (by rfl) w.heap.size w _ L [c] (by rfl) hown hbel (Nat.le_refl _) (by rfl) (by simp; omega) ?_; intro v1 w1 hown1 hbel1)
          have hst := st_next HL.out HS.out (o := [c]) (by rw [← HC.out]; rfl)
          have HST : Hid _ := hst
          have hbd := Pl.st_length f (k + 1)
          rw [hst] at hbd
          clear hst
          go_roundw
          case rel => exact ⟨k + 1, true, false, _, by omega, by go_num, rfl, rfl, by exact hbd, HN.out.trans rfl, HST.out, hown1, hbel1⟩
          case measure => simp [intOf]; omega
    · obtain rfl : k = n := by omega
      go_wp2_with fail
      go_ret
      exact ⟨_, rfl, by rw [HL.out]; exact hown, hbel⟩

set_option maxHeartbeats 400000 in
theorem strip_none (a : Option Addr) (c0 : Nat) (f : Nat → Int) (w : World) :
    Calls Try.prog 13 #[.slice a 0 c0] w fun e w' => ∃ v, e = .returned v ∧ Own w.heap.size w' v (Pl.st f 0) ∧ Below w.heap.size w w' := by
  obtain ⟨i0, hi, hz0, hz1, hz2⟩ := info_parts Try.info5
  go_enter Try.func13, Try.ntmps13
  go_wp2_with (at_make; refine wpList_make_own _ rfl _ _ 22 rfl w.heap.size 5 i0 (.int .u8 0) 1 Try.underlying22 hi hz0 hz1 _ _ _ 0 rfl rfl (by omega) (by rw [hz2]; omega) (by unfold maxLen; omega) (Nat.le_refl _) ?_)
  intro w1 hown1 hgrow1
  have hbel1 : Below w.heap.size w w1 := (Below.refl _ _).grown hgrow1 (Nat.le_refl _) (fun k h => by cases h)
  go_wp2_with fail
  refine wp_loop_rounds 1 ?_
  rw [rounds_succ]
  go_wp2_with fail
  go_ret
  exact ⟨_, rfl, hown1, hbel1⟩

theorem strip_any (n c0 : Nat) (a : Option Addr) (f : Nat → Int) (w : World) (hn : n ≤ 100000000) (hf : Bts w a n f) :
    Calls Try.prog 13 #[.slice a n c0] w fun e w' => ∃ v, e = .returned v ∧ Own w.heap.size w' v (Pl.st f n) ∧ Below w.heap.size w w' := by
  rcases hf with rfl | ⟨b, o, rfl, hf⟩
  · exact strip_none a c0 f w
  · by_cases h0 : n = 0
    · subst h0; exact strip_none _ c0 f w
    · exact strip_some n b o c0 f w hn (block_lt_of_cell (hf 0 (by omega))) hf

set_option maxHeartbeats 400000 in
theorem eq_some (n g o c g' o' c' : Nat) (f : Nat → Int) (w : World) (hn : n ≤ 100000000) (hg : ∀ j, j < n → w.cell? ⟨g, o + j, none⟩ = some (.int .u8 (f j))) (hh : ∀ j, j < n → w.cell? ⟨g', o' + j, none⟩ = some (.int .u8 (f j))) :
    Calls Try.prog 10 #[.slice (some ⟨g, o, none⟩) n c, .slice (some ⟨g', o', none⟩) n c'] w fun e w' => e = .returned (.bool true) ∧ ∃ m, w' = w.drewN m := by
  have hnn : ((n : Int) != (n : Int)) = false := by simp
  go_enter Try.func10, Try.ntmps10
  go_wp2_with fail
  go_loopw [5] (fun i wr => ∃ (k m : Nat), k ≤ n ∧ i = .int .i64 k ∧ wr = w.drewN m) (fun i _ => n - (intOf i).toNat)
  case atStart => exact ⟨0, 0, Nat.zero_le _, rfl, rfl⟩
  case round =>
    obtain ⟨k, m, hk, rfl, rfl⟩ := hrel
    by_cases hlt : k < n
    · have c1 := hg k hlt
      have c2 := hh k hlt
      have hff : (f k != f k) = false := by simp
      go_wp2_with fail
      go_quiet (fail)
      go_wp2_with fail
      go_roundw
      case rel => exact ⟨k + 1, _, by omega, by go_num, rfl⟩
      case measure => simp [intOf]; omega
    · go_wp2_with fail
      go_ret
      exact ⟨rfl, _, rfl⟩

set_option maxHeartbeats 400000 in
theorem eq_none (a a' : Option Addr) (c c' : Nat) (w : World) :
    Calls Try.prog 10 #[.slice a 0 c, .slice a' 0 c'] w fun e w' => e = .returned (.bool true) ∧ ∃ m, w' = w.drewN m := by
  go_enter Try.func10, Try.ntmps10
  go_wp2_with fail
  refine wp_loop_rounds 1 ?_
  rw [rounds_succ]
  go_wp2_with fail
  go_ret
  exact ⟨rfl, 0, rfl⟩

/-- Two slices that read alike are equal. -/
theorem eq_any (n c c' : Nat) (a a' : Option Addr) (f f' : Nat → Int) (w : World) (hn : n ≤ 100000000) (hf : Bts w a n f) (hf' : Bts w a' n f') (h : ∀ j, j < n → f' j = f j) :
    Calls Try.prog 10 #[.slice a n c, .slice a' n c'] w fun e w' => e = .returned (.bool true) ∧ ∃ m, w' = w.drewN m := by
  rcases hf with rfl | ⟨b, o, rfl, hf⟩
  · exact eq_none a a' c c' w
  · rcases hf' with rfl | ⟨b', o', rfl, hf'⟩
    · exact eq_none _ a' c c' w
    · exact eq_some n b o c b' o' c' f w hn hf (fun j hj => by rw [hf' j hj, h j hj])

end Go.Proofs.Qxb6602398a
