/-
  THE WALK OF THE LAW FnFindInvertsVisibleIndex.
-/
import Derived.Test.Qxb6602346aZZFind
import Derived.Test.Qxb6602346aMathF
namespace Go.Proofs.Qxb6602346a
open Go.RowKit
set_option linter.unusedVariables false

theorem ne_blk {b c o : Nat} (h : b ≠ c) : b ≠ (⟨c, o, none⟩ : Addr).block := h
theorem le_blk {b c o : Nat} (h : b ≤ c) : b ≤ (⟨c, o, none⟩ : Addr).block := h

theorem st_step {S E : Nat → Int} {k : Nat} {f : Nat → Value} (h : ∀ i, i < 2 * k → f i = intCell (Pl.pst S E) i) :
    ∀ i, i < 2 * (k + 1) → (fun j => if j = 2 * k + 1 then Value.int .i64 (S k) else (fun j => if j = 2 * k then Value.int .i64 (Pl.prev E k) else f j) j) i = intCell (Pl.pst S E) i := by
  intro i hi
  dsimp only
  split
  · subst i; rw [intCell, Pl.pst_odd]
  split
  · subst i; rw [intCell, Pl.pst_even]
  · exact h i (by omega)
theorem st_end {S E : Nat → Int} {k : Nat} {f : Nat → Value} (h : ∀ i, i < 2 * k → f i = intCell (Pl.pst S E) i) :
    ∀ i, i < 2 * k + 1 → (fun j => if j = 2 * k then Value.int .i64 (Pl.prev E k) else f j) i = intCell (Pl.pst S E) i := by
  intro i hi
  dsimp only
  split
  · subst i; rw [intCell, Pl.pst_even]
  · exact h i (by omega)
theorem en_step {n : Nat} {len : Int} {S E : Nat → Int} {k : Nat} {f : Nat → Value} (hk : k < n) (h : ∀ i, i < 2 * k → f i = intCell (Pl.pen n len S E) i) :
    ∀ i, i < 2 * (k + 1) → (fun j => if j = 2 * k + 1 then Value.int .i64 (E k) else (fun j => if j = 2 * k then Value.int .i64 (S k) else f j) j) i = intCell (Pl.pen n len S E) i := by
  intro i hi
  dsimp only
  split
  · subst i; rw [intCell, Pl.pen_odd]
  split
  · subst i; rw [intCell, Pl.pen_even n len S E k hk]
  · exact h i (by omega)
theorem en_end {n : Nat} {len : Int} {S E : Nat → Int} {f : Nat → Value} (h : ∀ i, i < 2 * n → f i = intCell (Pl.pen n len S E) i) :
    ∀ i, i < 2 * n + 1 → (fun j => if j = 2 * n then Value.int .i64 len else f j) i = intCell (Pl.pen n len S E) i := by
  intro i hi
  dsimp only
  split
  · subst i; rw [intCell, Pl.pen_last]
  · exact h i (by omega)
theorem dl_step {k : Nat} {f : Nat → Value} (h : ∀ i, f i = .bool (Pl.pdl i && decide (i < 2 * k))) :
    ∀ i, (fun j => if j = 2 * k + 1 then Value.bool true else f j) i = .bool (Pl.pdl i && decide (i < 2 * (k + 1))) := by
  intro i
  dsimp only
  split
  · subst i; rw [Pl.pdl_odd, decide_eq_true (by omega)]; rfl
  · rw [h i]
    by_cases h1 : i < 2 * k
    · rw [decide_eq_true h1, decide_eq_true (by omega)]
    · by_cases h2 : i = 2 * k
      · subst h2; rw [Pl.pdl_even]; rfl
      · rw [decide_eq_false h1, decide_eq_false (by omega)]
theorem dl_end {n : Nat} {f : Nat → Value} (h : ∀ i, f i = .bool (Pl.pdl i && decide (i < 2 * n))) : ∀ i, i < 2 * n + 1 → f i = (fun j => Value.bool (Pl.pdl j)) i := by
  intro i hi
  rw [h i]
  by_cases h1 : i < 2 * n
  · rw [decide_eq_true h1, Bool.and_true]
  · obtain rfl : i = 2 * n := by omega
    rw [decide_eq_false h1, Bool.and_false]
    show _ = Value.bool (Pl.pdl (2 * n))
    rw [Pl.pdl_even]

theorem made5 (w : World) (N : Nat) :
    ((((((w.alloc (.cells (madeCells #[.int .i64 0] N) 3)).alloc (.cells (madeCells #[.int .i64 0] N) 3)).alloc (.cells (madeCells #[.int .i64 0] N) 3)).alloc (.cells (madeCells #[.bool false] N) 4)).alloc (.cells (madeCells #[.slice none 0 0] N) 32)).rowIs w.heap.size 3 N (fun _ => .int .i64 0)) ∧
    ((((((w.alloc (.cells (madeCells #[.int .i64 0] N) 3)).alloc (.cells (madeCells #[.int .i64 0] N) 3)).alloc (.cells (madeCells #[.int .i64 0] N) 3)).alloc (.cells (madeCells #[.bool false] N) 4)).alloc (.cells (madeCells #[.slice none 0 0] N) 32)).rowIs (w.heap.size + 1) 3 N (fun _ => .int .i64 0)) ∧
    ((((((w.alloc (.cells (madeCells #[.int .i64 0] N) 3)).alloc (.cells (madeCells #[.int .i64 0] N) 3)).alloc (.cells (madeCells #[.int .i64 0] N) 3)).alloc (.cells (madeCells #[.bool false] N) 4)).alloc (.cells (madeCells #[.slice none 0 0] N) 32)).rowIs (w.heap.size + 1 + 1) 3 N (fun _ => .int .i64 0)) ∧
    ((((((w.alloc (.cells (madeCells #[.int .i64 0] N) 3)).alloc (.cells (madeCells #[.int .i64 0] N) 3)).alloc (.cells (madeCells #[.int .i64 0] N) 3)).alloc (.cells (madeCells #[.bool false] N) 4)).alloc (.cells (madeCells #[.slice none 0 0] N) 32)).rowIs (w.heap.size + 1 + 1 + 1) 4 N (fun _ => .bool false)) ∧
    ((((((w.alloc (.cells (madeCells #[.int .i64 0] N) 3)).alloc (.cells (madeCells #[.int .i64 0] N) 3)).alloc (.cells (madeCells #[.int .i64 0] N) 3)).alloc (.cells (madeCells #[.bool false] N) 4)).alloc (.cells (madeCells #[.slice none 0 0] N) 32)).rowIs (w.heap.size + 1 + 1 + 1 + 1) 32 N (fun _ => .slice none 0 0)) ∧
    Below w.heap.size w (((((w.alloc (.cells (madeCells #[.int .i64 0] N) 3)).alloc (.cells (madeCells #[.int .i64 0] N) 3)).alloc (.cells (madeCells #[.int .i64 0] N) 3)).alloc (.cells (madeCells #[.bool false] N) 4)).alloc (.cells (madeCells #[.slice none 0 0] N) 32)) := by
  have e : ∀ (w : World) (o : Obj), (w.alloc o).heap.size = w.heap.size + 1 := fun w o => by simp
  have s1 := World.rowIs_made w (.int .i64 0) N 3
  have s2 := World.rowIs_made (w.alloc (.cells (madeCells #[.int .i64 0] N) 3)) (.int .i64 0) N 3
  have s3 := World.rowIs_made ((w.alloc (.cells (madeCells #[.int .i64 0] N) 3)).alloc (.cells (madeCells #[.int .i64 0] N) 3)) (.int .i64 0) N 3
  have s4 := World.rowIs_made (((w.alloc (.cells (madeCells #[.int .i64 0] N) 3)).alloc (.cells (madeCells #[.int .i64 0] N) 3)).alloc (.cells (madeCells #[.int .i64 0] N) 3)) (.bool false) N 4
  have s5 := World.rowIs_made ((((w.alloc (.cells (madeCells #[.int .i64 0] N) 3)).alloc (.cells (madeCells #[.int .i64 0] N) 3)).alloc (.cells (madeCells #[.int .i64 0] N) 3)).alloc (.cells (madeCells #[.bool false] N) 4)) (.slice none 0 0) N 32
  simp only [e] at s2 s3 s4 s5
  exact ⟨(((s1.alloc _).alloc _).alloc _).alloc _, ((s2.alloc _).alloc _).alloc _, (s3.alloc _).alloc _, s4.alloc _, s5,
    (((((Below.refl _ w).alloc (Nat.le_refl _) _).alloc (by rw [e]; omega) _).alloc (by rw [e, e]; omega) _).alloc (by rw [e, e, e]; omega) _).alloc (by rw [e, e, e, e]; omega) _⟩

theorem Try.info4 : (Try.prog.info? 4).map (fun i => (i.zero, i.size, i.bytes)) = some (some (.bool false), 1, 1) := by kernel_rfl
theorem Try.info32 : (Try.prog.info? 32).map (fun i => (i.zero, i.size, i.bytes)) = some (some (.slice none 0 0), 1, 24) := by kernel_rfl

set_option maxHeartbeats 400000 in
theorem bytes22 (a0 a1 : Option Addr) (len0 cap0 len1 cap1 : Nat) (len x : Int) (w : World) (m0 : len0 ≤ maxLen) (m1 : len1 ≤ maxLen) :
    Calls Try.prog 22 #[.int .i64 len, .slice a0 len0 cap0, .slice a1 len1 cap1, .int .i64 x] w fun e w' => RetB True e ∧ w = w' := by
  unfold maxLen at m0 m1
  go_enter Try.func22, Try.ntmps22
  go_wp2
  all_goals go_ret
  all_goals exact ⟨⟨_, rfl, fun _ => trivial⟩, rfl⟩

set_option maxRecDepth 10000 in
set_option maxHeartbeats 400000 in
theorem law8_early (a0 a1 : Option Addr) (len0 cap0 len1 cap1 : Nat) (len x : Int) (w : World) (m0 : len0 ≤ maxLen) (m1 : len1 ≤ maxLen) (h : ¬ (len0 ≤ 65536 ∧ len1 ≤ 65536 ∧ len0 = len1)) :
    Calls Try.prog 8 #[.int .i64 len, .slice a0 len0 cap0, .slice a1 len1 cap1, .int .i64 x] w fun e w' => e = .returned (.bool true) ∧ Below w.heap.size w w' := by
  unfold maxLen at m0 m1
  by_cases h0 : 65536 < len0
  · clear h
    go_enter Try.func8, Try.ntmps8
    go_wp2_with fail
    refine (bytes22 a0 a1 len0 cap0 len1 cap1 len x _ (by unfold maxLen; omega) (by unfold maxLen; omega)).mono ?_
    rintro e w1 ⟨⟨v, rfl, _⟩, rfl⟩
    cases v
    all_goals
      go_wp2_with fail
      go_ret
      exact ⟨rfl, Below.refl _ _⟩
  by_cases h1 : 65536 < len1
  · clear h
    go_enter Try.func8, Try.ntmps8
    go_wp2_with fail
    refine (bytes22 a0 a1 len0 cap0 len1 cap1 len x _ (by unfold maxLen; omega) (by unfold maxLen; omega)).mono ?_
    rintro e w1 ⟨⟨v, rfl, _⟩, rfl⟩
    cases v
    all_goals
      go_wp2_with fail
      go_ret
      exact ⟨rfl, Below.refl _ _⟩
  have hne : ¬ len0 = len1 := by omega
  clear h
  have Hne : Hid (¬ len0 = len1) := hne
  clear hne
  go_enter Try.func8, Try.ntmps8
  go_wp2_with fail
  refine (bytes22 a0 a1 len0 cap0 len1 cap1 len x _ (by unfold maxLen; omega) (by unfold maxLen; omega)).mono ?_
  rintro e w1 ⟨⟨v, rfl, _⟩, rfl⟩
  cases v
  · go_wp2_with fail
    go_ret
    exact ⟨rfl, Below.refl _ _⟩
  · go_wp2_with fail
    refine (dom_ne len0 len1 a0 a1 cap0 cap1 _ Hne.out).mono ?_
    rintro e w1 ⟨rfl, rfl⟩
    go_wp2_with fail
    go_ret
    exact ⟨rfl, Below.refl _ _⟩

set_option maxRecDepth 10000 in
set_option maxHeartbeats 3200000 in
theorem law8_main (n : Nat) (a0 a1 : Option Addr) (cap0 cap1 : Nat) (S E : Nat → Int) (len x : Int) (w : World) (hn : n ≤ 65536) (hS : Ints w a0 n S) (hE : Ints w a1 n E) (hlen : len ≤ 9223372036854775807) (hx : x ≤ 9223372036854775807) :
    Calls Try.prog 8 #[.int .i64 len, .slice a0 n cap0, .slice a1 n cap1, .int .i64 x] w fun e w' => e = .returned (.bool true) ∧ Below w.heap.size w w' := by
  have hq0 := fun (w : World) (a : Option Addr) (n c : Nat) => run_neq_slice_nil_any (P := Try.prog) w 22 3 a n c 0 0 Try.underlying22
  have hmk := run_make_any (P := Try.prog) 22 3 _ 1 8 Try.underlying22 Try.info3 n (by omega) (by omega)
  by_cases h0 : x < 0
  · go_enter Try.func8, Try.ntmps8
    go_wp2_with fail
    refine (bytes22 a0 a1 n cap0 n cap1 len x _ (by unfold maxLen; omega) (by unfold maxLen; omega)).mono ?_
    rintro e w1 ⟨⟨v, rfl, _⟩, rfl⟩
    cases v
    · go_wp2_with fail
      go_ret
      exact ⟨rfl, Below.refl _ _⟩
    go_wp2_with fail
    refine (dom_any n a0 a1 cap0 cap1 S E _ hn hS hE).mono ?_
    rintro e w1 ⟨⟨v, rfl, hv⟩, m, rfl⟩
    cases v
    all_goals
      go_wp2_with fail
      go_ret
      exact ⟨rfl, below_drewN (Below.refl _ _) _⟩
  by_cases hxl : len ≤ x
  · go_enter Try.func8, Try.ntmps8
    go_wp2_with fail
    refine (bytes22 a0 a1 n cap0 n cap1 len x _ (by unfold maxLen; omega) (by unfold maxLen; omega)).mono ?_
    rintro e w1 ⟨⟨v, rfl, _⟩, rfl⟩
    cases v
    · go_wp2_with fail
      go_ret
      exact ⟨rfl, Below.refl _ _⟩
    go_wp2_with fail
    refine (dom_any n a0 a1 cap0 cap1 S E _ hn hS hE).mono ?_
    rintro e w1 ⟨⟨v, rfl, hv⟩, m, rfl⟩
    cases v
    all_goals
      go_wp2_with fail
      go_ret
      exact ⟨rfl, below_drewN (Below.refl _ _) _⟩
  go_enter Try.func8, Try.ntmps8
  go_wp2_with fail
  refine (bytes22 a0 a1 n cap0 n cap1 len x _ (by unfold maxLen; omega) (by unfold maxLen; omega)).mono ?_
  rintro e w1 ⟨⟨v, rfl, _⟩, rfl⟩
  cases v
  · go_wp2_with fail
    go_ret
    exact ⟨rfl, Below.refl _ _⟩
  go_wp2_with fail
  refine (dom_any n a0 a1 cap0 cap1 S E _ hn hS hE).mono ?_
  rintro e w1 ⟨⟨v, rfl, hv⟩, m, rfl⟩
  cases v
  · go_wp2_with fail
    go_ret
    exact ⟨rfl, below_drewN (Below.refl _ _) _⟩
  have hdom := hv rfl
  have Hdom : Hid (Pl.Dom n S E) := hdom
  clear hdom hv
  go_upto_region 9 with (fail)
  go_cut [65] (fun s65 wr => ∃ v, s65 = .bool v ∧ Hid (v = false → 0 < n → E (n - 1) ≤ len) ∧ wr = w.drewN m)
  case first =>
    by_cases hn0 : n = 0
    · have hp : decide (0 < n) = false := by simp; omega
      have Hn0 : Hid (n = 0) := hn0
      clear hn0
      go_wp2_with fail
      go_meet
      case rel => exact ⟨false, rfl, fun _ h => by have := Hn0.out; omega, rfl⟩
    · have hp : decide (0 < n) = true := by simp; omega
      rcases hE with h | ⟨b, o, rfl, hE⟩
      · exact absurd h hn0
      · have cE := hE (n - 1) (by omega)
        have HEE : Hid _ := hE
        clear hE
        go_wp2_with fail
        go_meet
        case rel => exact ⟨decide (len < E (n - 1)), rfl, fun h _ => by simpa using h, rfl⟩
  obtain ⟨v, rfl, Hlast, rfl⟩ := hcut
  cases v
  rotate_left
  · go_wp2_with fail
    go_ret
    exact ⟨rfl, below_drewN (Below.refl _ _) _⟩
  have hlast := Hlast.out rfl
  have HLast : Hid (0 < n → E (n - 1) ≤ len) := hlast
  clear hlast Hlast
  go_wp2_with fail
  refine (del_any n a0 a1 cap0 cap1 S E x (w.drewN m) hn hS hE).mono ?_
  rintro e w1 ⟨⟨v, rfl, hv⟩, rfl⟩
  cases v
  rotate_left
  · go_wp2_with fail
    go_ret
    exact ⟨rfl, below_drewN (Below.refl _ _) _⟩
  have hkept := hv rfl
  have Hkept : Hid (Pl.Kept n S E x) := hkept
  clear hkept hv
  go_upto_if 71 with (fail)
  go_cut [1] (fun s0 wr => ∃ a2 c2, s0 = .slice a2 n c2 ∧ Ints wr a2 n S ∧ Ints wr a1 n E ∧ Below w.heap.size w wr)
  case first =>
    rcases a0 with _ | x
    · go_wp2_with (fail)
      go_meet
      case rel => exact ⟨_, _, rfl, hS, hE, below_drewN (Below.refl _ _) _⟩
    · go_upto_region 15 with (fail)
      refine wp_region_lit ?_
      iterate 6 go_step
      refine wpList_copy_ints (by rfl) (.tmp 75) (.tmp 76) 22 22 (by rfl) 3 Try.underlying22 (by kernel_rfl) w.heap.size n (some x) cap0 (by rfl) (by rfl) (fun _ => .int .i64 0) S (by simpa using World.rowIs_made (w.drewN m) (.int .i64 0) n 3) (ints_alloc hS) ?_
      intro w2 hr2 hb2
      go_wp2_with fail
      go_meet
      case rel => exact ⟨_, _, rfl, ints_row hr2, ints_below hE (((below_drewN (Below.refl _ _) m).alloc (Nat.le_refl _) _).trans hb2), ((below_drewN (Below.refl _ _) m).alloc (Nat.le_refl _) _).trans hb2⟩
  obtain ⟨a2, c2, rfl, hS2, hE2, hbel2⟩ := hcut
  clear hS hE
  go_upto_if 80 with (fail)
  go_cut [2] (fun s1 wr => ∃ a3 c3, s1 = .slice a3 n c3 ∧ Ints wr a2 n S ∧ Ints wr a3 n E ∧ Below w.heap.size w wr)
  case first =>
    rcases a1 with _ | x
    · go_wp2_with (fail)
      go_meet
      case rel => exact ⟨_, _, rfl, hS2, hE2, hbel2⟩
    · go_upto_region 19 with (fail)
      refine wp_region_lit ?_
      iterate 6 go_step
      refine wpList_copy_ints (by rfl) (.tmp 84) (.tmp 85) 22 22 (by rfl) 3 Try.underlying22 (by kernel_rfl) wc.heap.size n (some x) cap1 (by rfl) (by rfl) (fun _ => .int .i64 0) E (by simpa using World.rowIs_made wc (.int .i64 0) n 3) (ints_alloc hE2) ?_
      intro w3 hr3 hb3
      go_wp2_with fail
      have hb := ((Below.refl _ wc).alloc (Nat.le_refl _) (.cells (madeCells #[.int .i64 0] n) 3)).trans hb3
      go_meet
      case rel => exact ⟨_, _, rfl, ints_below hS2 hb, ints_row hr3, hbel2.trans (hb.mono hbel2.size)⟩
  obtain ⟨a3, c3, rfl, hS3, hE3, hbel3⟩ := hcut
  clear hS2 hE2 hbel2
  obtain ⟨c, hc⟩ := Pl.cut_exists Hdom.out x
  have lay : Pl.Lay n S E x len c := ⟨Hdom.out, Hkept.out, hc, by omega, by omega, by omega, HLast.out⟩
  have HLay : Hid (Pl.Lay n S E x len c) := lay
  have hcn : c ≤ n := hc.1
  have Hc : Hid (Pl.CutAt n S x c) := hc
  clear lay hc hmk
  have ec : ((2 * n + 1 : Nat) : Int) = 2 * (n : Int) + 1 := by omega
  have mk1 := run_make_any (P := Try.prog) 22 3 _ 1 8 Try.underlying22 Try.info3 (2 * n + 1) (by omega) (by omega)
  have mk2 := run_make_any (P := Try.prog) 29 4 _ 1 1 Try.underlying29 Try.info4 (2 * n + 1) (by omega) (by omega)
  have mk3 := run_make_any (P := Try.prog) 30 32 _ 1 24 Try.underlying30 Try.info32 (2 * n + 1) (by omega) (by omega)
  rw [ec] at mk1 mk2 mk3
  clear ec
  have M := made5 wc (2 * n + 1)
  obtain ⟨m0, m1, m2, m3, m4, mb⟩ := M
  go_wp2_with fail
  go_loopw [17, 18, 19] (fun pv jv kv wr => ∃ (k : Nat) (f1 f2 f3 : Nat → Value), k ≤ n ∧ kv = .int .i64 k ∧ jv = .int .i64 (2 * (k : Int)) ∧ pv = .int .i64 (Pl.prev E k) ∧
      wr.rowIs wc.heap.size 3 (2 * n + 1) (fun _ => .int .i64 0) ∧ wr.rowIs (wc.heap.size + 1) 3 (2 * n + 1) f1 ∧ wr.rowIs (wc.heap.size + 1 + 1) 3 (2 * n + 1) f2 ∧ wr.rowIs (wc.heap.size + 1 + 1 + 1) 4 (2 * n + 1) f3 ∧ wr.rowIs (wc.heap.size + 1 + 1 + 1 + 1) 32 (2 * n + 1) (fun _ => .slice none 0 0) ∧
      Hid (∀ i, i < 2 * k → f1 i = intCell (Pl.pst S E) i) ∧ Hid (∀ i, i < 2 * k → f2 i = intCell (Pl.pen n len S E) i) ∧ Hid (∀ i, f3 i = .bool (Pl.pdl i && decide (i < 2 * k))) ∧ Below wc.heap.size wc wr)
    (fun _ _ kv _ => n - (intOf kv).toNat)
  case atStart => exact ⟨0, _, _, _, Nat.zero_le _, rfl, rfl, rfl, m0, m1, m2, m3, m4, fun i h => by omega, fun i h => by omega, fun i => by simp, mb⟩
  case round =>
    clear m0 m1 m2 m3 m4 mb
    obtain ⟨k, f1, f2, f3, hk, rfl, rfl, rfl, r0, r1, r2, r3, r4, H1, H2, H3, hbw⟩ := hrel
    have hsz := r4.lt
    by_cases hlt : k < n
    · rcases hS3 with h | ⟨b2, o2, rfl, hS3⟩
      · omega
      rcases hE3 with h | ⟨b3, o3, rfl, hE3⟩
      · omega
      have lS := block_lt_of_cell (hS3 k hlt)
      have lE := block_lt_of_cell (hE3 k hlt)
      have cS : wr.cell? ⟨b2, o2 + k, none⟩ = some (.int .i64 (S k)) := by rw [hbw.cell (by exact lS), hS3 k hlt]
      have cE : wr.cell? ⟨b3, o3 + k, none⟩ = some (.int .i64 (E k)) := by rw [hbw.cell (by exact lE), hE3 k hlt]
      have lS' : b2 < wc.heap.size := lS
      have lE' : b3 < wc.heap.size := lE
      have n1 := r1.cell (i := 2 * k) (by omega)
      have n1' := r1.cell (i := 2 * k + 1) (by omega)
      have n2 := r2.cell (i := 2 * k) (by omega)
      have n2' := r2.cell (i := 2 * k + 1) (by omega)
      have n3 := r3.cell (i := 2 * k + 1) (by omega)
      have z1 := r1.frozen (2 * k)
      have z1' := r1.frozen (2 * k + 1)
      have z2 := r2.frozen (2 * k)
      have z2' := r2.frozen (2 * k + 1)
      have z3 := r3.frozen (2 * k + 1)
      have HS3 : Hid _ := hS3
      have HE3 : Hid _ := hE3
      clear hS3 hE3
      have x1 : b2 ≠ wc.heap.size + 1 := by omega
      have x2 : b2 ≠ wc.heap.size + 1 + 1 := by omega
      have x3 : b2 ≠ wc.heap.size + 1 + 1 + 1 := by omega
      have y1 : b3 ≠ wc.heap.size + 1 := by omega
      have y2 : b3 ≠ wc.heap.size + 1 + 1 := by omega
      have y3 : b3 ≠ wc.heap.size + 1 + 1 + 1 := by omega
      go_wp2_with fail
      go_roundw
      case rel => exact ⟨k + 1, _, _, _, by omega, by go_num, by go_num, rfl,
        ((((r0.setOther (ne_blk (by omega)) _).setOther (ne_blk (by omega)) _).setOther (ne_blk (by omega)) _).setOther (ne_blk (by omega)) _).setOther (ne_blk (by omega)) _,
        ((((r1.set _ _).setOther (ne_blk (by omega)) _).set _ _).setOther (ne_blk (by omega)) _).setOther (ne_blk (by omega)) _,
        ((((r2.setOther (ne_blk (by omega)) _).set _ _).setOther (ne_blk (by omega)) _).set _ _).setOther (ne_blk (by omega)) _,
        ((((r3.setOther (ne_blk (by omega)) _).setOther (ne_blk (by omega)) _).setOther (ne_blk (by omega)) _).setOther (ne_blk (by omega)) _).set _ _,
        ((((r4.setOther (ne_blk (by omega)) _).setOther (ne_blk (by omega)) _).setOther (ne_blk (by omega)) _).setOther (ne_blk (by omega)) _).setOther (ne_blk (by omega)) _,
        st_step H1.out, en_step hlt H2.out, dl_step H3.out,
        ((((hbw.setCell (le_blk (by omega)) _).setCell (le_blk (by omega)) _).setCell (le_blk (by omega)) _).setCell (le_blk (by omega)) _).setCell (le_blk (by omega)) _⟩
      case measure => simp [intOf]; omega
    · obtain rfl : k = n := by omega
      have n1 := r1.cell (i := 2 * k) (by omega)
      have n2 := r2.cell (i := 2 * k) (by omega)
      have z1 := r1.frozen (2 * k)
      have z2 := r2.frozen (2 * k)
      go_wp2_with fail
      have hbw' := (hbw.setCell (p := ⟨wc.heap.size + 1, 2 * k, none⟩) (le_blk (by omega)) (.int .i64 (Pl.prev E k))).setCell (p := ⟨wc.heap.size + 1 + 1, 2 * k, none⟩) (le_blk (by omega)) (.int .i64 len)
      have R0 := (r0.setOther (a := ⟨wc.heap.size + 1, 2 * k, none⟩) (ne_blk (by omega)) (.int .i64 (Pl.prev E k))).setOther (a := ⟨wc.heap.size + 1 + 1, 2 * k, none⟩) (ne_blk (by omega)) (.int .i64 len)
      have R1 := (r1.set (2 * k) (.int .i64 (Pl.prev E k))).setOther (a := ⟨wc.heap.size + 1 + 1, 2 * k, none⟩) (ne_blk (by omega)) (.int .i64 len)
      have R2 := (r2.setOther (a := ⟨wc.heap.size + 1, 2 * k, none⟩) (ne_blk (by omega)) (.int .i64 (Pl.prev E k))).set (2 * k) (.int .i64 len)
      have R3 := (r3.setOther (a := ⟨wc.heap.size + 1, 2 * k, none⟩) (ne_blk (by omega)) (.int .i64 (Pl.prev E k))).setOther (a := ⟨wc.heap.size + 1 + 1, 2 * k, none⟩) (ne_blk (by omega)) (.int .i64 len)
      have R4 := (r4.setOther (a := ⟨wc.heap.size + 1, 2 * k, none⟩) (ne_blk (by omega)) (.int .i64 (Pl.prev E k))).setOther (a := ⟨wc.heap.size + 1 + 1, 2 * k, none⟩) (ne_blk (by omega)) (.int .i64 len)
      replace R1 := R1.congr (st_end H1.out)
      replace R2 := R2.congr (en_end (len := len) (S := S) (E := E) H2.out)
      replace R3 := R3.congr (dl_end H3.out)
      generalize (wr.setCell ⟨wc.heap.size + 1, 2 * k, none⟩ (.int .i64 (Pl.prev E k))).setCell ⟨wc.heap.size + 1 + 1, 2 * k, none⟩ (.int .i64 len) = W at *
      clear r0 r1 r2 r3 r4 n1 n2 z1 z2 H1 H2 H3 hbw mk1 mk2 mk3
      refine (zzvis_any k c a2 a3 c2 c3 S E x _ hn (ints_below hS3 hbw') (ints_below hE3 hbw') Hdom.out Hkept.out Hc.out (by omega) hx).mono ?_
      rintro e w4 ⟨rfl, hb4⟩
      have Q0 := R0.of_block (hb4.block _ R0.lt)
      have Q1 := R1.of_block (hb4.block _ R1.lt)
      have Q2 := R2.of_block (hb4.block _ R2.lt)
      have Q3 := R3.of_block (hb4.block _ R3.lt)
      have Q4 := R4.of_block (hb4.block _ R4.lt)
      have hbel4 : Below w.heap.size w w4 := (hbel3.trans (hbw'.mono hbel3.size)).trans (hb4.mono (Nat.le_trans hbel3.size hbw'.size))
      have lay := HLay.out
      have F := zzfind_any (Pl.pst S E) (Pl.pen k len S E) Pl.pdl (2 * k + 1) (2 * c) _ _ _ _ _ (Pl.pidx S E (x - Pl.sz S E c)) w4 (by omega) (by omega) Q0 Q1 Q2 Q3 Q4 (Pl.pdl_even c) lay.pass lay.skip lay.last_piece lay.idx_bounds lay.piece_bounds
      rw [Pl.pidx_zero, lay.idx_c] at F
      have g1 := lay.st_le
      have g2 := lay.at_c
      have HF : Hid _ := F
      clear F Q0 Q1 Q2 Q3 Q4 R0 R1 R2 R3 R4 hb4 hbw' lay
      go_wp2_with fail
      refine Calls.mono HF.out ?_
      rintro e w5 ⟨rfl, hb5⟩
      have hbel5 : Below w.heap.size w w5 := hbel4.trans (hb5.mono hbel4.size)
      clear HF hb5 hbel4
      generalize Pl.pst S E (2 * c) = ps at *
      generalize Pl.pen k len S E (2 * c) = pe at *
      have hxx : (x == x) = true := by simp
      go_wp2_with fail
      go_ret
      exact ⟨rfl, hbel5⟩

end Go.Proofs.Qxb6602346a
