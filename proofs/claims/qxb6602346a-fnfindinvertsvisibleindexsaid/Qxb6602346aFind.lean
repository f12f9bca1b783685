/-
  THE WALK OF find.
-/
import Derived.Test.Qxb6602346aVis2
namespace Go.Proofs.Qxb6602346a
open Go.RowKit
set_option linter.unusedVariables false

/-- The cells of a row of pieces: insert (0), start, end, deleted, text (nil). -/
def pieceCell (st en : Nat → Int) (dl : Nat → Bool) (j : Nat) : Value :=
  if j % 5 = 0 then .int .i64 0 else if j % 5 = 1 then .int .i64 (st (j / 5)) else if j % 5 = 2 then .int .i64 (en (j / 5)) else if j % 5 = 3 then .bool (dl (j / 5)) else .slice none 0 0

section
variable (st en : Nat → Int) (dl : Nat → Bool) (k : Nat)
theorem piece0 : pieceCell st en dl (k * 5) = .int .i64 0 := by unfold pieceCell; rw [if_pos (by omega)]
theorem piece1 : pieceCell st en dl (k * 5 + 1) = .int .i64 (st k) := by
  unfold pieceCell; rw [if_neg (by omega), if_pos (by omega), show (k * 5 + 1) / 5 = k by omega]
theorem piece2 : pieceCell st en dl (k * 5 + 2) = .int .i64 (en k) := by
  unfold pieceCell; rw [if_neg (by omega), if_neg (by omega), if_pos (by omega), show (k * 5 + 2) / 5 = k by omega]
theorem piece3 : pieceCell st en dl (k * 5 + 3) = .bool (dl k) := by
  unfold pieceCell; rw [if_neg (by omega), if_neg (by omega), if_neg (by omega), if_pos (by omega), show (k * 5 + 3) / 5 = k by omega]
theorem piece4 : pieceCell st en dl (k * 5 + 4) = .slice none 0 0 := by
  unfold pieceCell; rw [if_neg (by omega), if_neg (by omega), if_neg (by omega), if_neg (by omega)]

end

theorem five_set {w : World} {r t : Nat} {f : Nat → Value} (h : w.rowIs r t 5 f) (v0 v1 v2 v3 v4 : Value) (o : Obj) :
    ((((((w.setCell ⟨r, 0, none⟩ v0).setCell ⟨r, 1, none⟩ v1).setCell ⟨r, 2, none⟩ v2).setCell ⟨r, 3, none⟩ v3).setCell ⟨r, 4, none⟩ v4).alloc o).cell? ⟨r, 0, none⟩ = some v0 ∧
    ((((((w.setCell ⟨r, 0, none⟩ v0).setCell ⟨r, 1, none⟩ v1).setCell ⟨r, 2, none⟩ v2).setCell ⟨r, 3, none⟩ v3).setCell ⟨r, 4, none⟩ v4).alloc o).cell? ⟨r, 1, none⟩ = some v1 ∧
    ((((((w.setCell ⟨r, 0, none⟩ v0).setCell ⟨r, 1, none⟩ v1).setCell ⟨r, 2, none⟩ v2).setCell ⟨r, 3, none⟩ v3).setCell ⟨r, 4, none⟩ v4).alloc o).cell? ⟨r, 2, none⟩ = some v2 ∧
    ((((((w.setCell ⟨r, 0, none⟩ v0).setCell ⟨r, 1, none⟩ v1).setCell ⟨r, 2, none⟩ v2).setCell ⟨r, 3, none⟩ v3).setCell ⟨r, 4, none⟩ v4).alloc o).cell? ⟨r, 3, none⟩ = some v3 ∧
    ((((((w.setCell ⟨r, 0, none⟩ v0).setCell ⟨r, 1, none⟩ v1).setCell ⟨r, 2, none⟩ v2).setCell ⟨r, 3, none⟩ v3).setCell ⟨r, 4, none⟩ v4).alloc o).cell? ⟨r, 4, none⟩ = some v4 := by
  have R := (((((h.set 0 v0).set 1 v1).set 2 v2).set 3 v3).set 4 v4).alloc o
  exact ⟨(R.cell (i := 0) (by omega)).trans (by simp), (R.cell (i := 1) (by omega)).trans (by simp), (R.cell (i := 2) (by omega)).trans (by simp), (R.cell (i := 3) (by omega)).trans (by simp), (R.cell (i := 4) (by omega)).trans (by simp)⟩

theorem find_res (x y b : Int) (W : World) (r : Nat) (tmps : Array Value) (h4 : tmps[4]?.getD undef = .pointer (some ⟨r, 0, none⟩)) (h5 : tmps[5]?.getD undef = .int .i64 b) (h6 : tmps[6]?.getD undef = .bool true)
    (q0 : W.cell? ⟨r, 0, none⟩ = some (.int .i64 0)) (q1 : W.cell? ⟨r, 1, none⟩ = some (.int .i64 x)) (q2 : W.cell? ⟨r, 2, none⟩ = some (.int .i64 y)) (q3 : W.cell? ⟨r, 3, none⟩ = some (.bool false)) (q4 : W.cell? ⟨r, 4, none⟩ = some (.slice none 0 0)) :
    (results Try.f26 tmps).run Try.prog W.drew = .ok (.tuple #[.agg #[.int .i64 0, .int .i64 x, .int .i64 y, .bool false, .slice none 0 0], .int .i64 b, .bool true]) W.drew := by
  have p0 : W.drew.cell? ⟨r, 0, none⟩ = some (.int .i64 0) := q0
  have p1 : W.drew.cell? ⟨r, 1, none⟩ = some (.int .i64 x) := q1
  have p2 : W.drew.cell? ⟨r, 2, none⟩ = some (.int .i64 y) := q2
  have p3 : W.drew.cell? ⟨r, 3, none⟩ = some (.bool false) := q3
  have p4 : W.drew.cell? ⟨r, 4, none⟩ = some (.slice none 0 0) := q4
  generalize W.drew = V at *
  simp [results, Try.results26, go_sem, h4, h5, h6, p0, p1, p2, p3, p4]

set_option maxRecDepth 10000 in
set_option maxHeartbeats 800000 in
theorem find_any (st en : Nat → Int) (dl : Nat → Bool) (m t g : Nat) (idx : Nat → Int) (w : World) (hm : m ≤ 131073) (ht : t < m) (hr : w.rowIs g 51 (m * 5) (pieceCell st en dl))
    (hdt : dl t = false) (hpass : ∀ k, k < t → dl k = false → en k - st k ≤ idx k ∧ idx (k + 1) = idx k - (en k - st k)) (hskip : ∀ k, k < t → dl k = true → idx (k + 1) = idx k)
    (hlast : idx t < en t - st t) (hix : ∀ k, k ≤ t → 0 ≤ idx k ∧ idx k ≤ 9223372036854775807) (hse : ∀ k, k ≤ t → 0 ≤ st k ∧ st k ≤ en k ∧ en k ≤ 9223372036854775807) :
    Calls Try.prog 26 #[.slice (some ⟨g, 0, none⟩) m m, .int .i64 (idx 0)] w fun e w' =>
      e = .returned (.tuple #[.agg #[.int .i64 0, .int .i64 (st t), .int .i64 (en t), .bool false, .slice none 0 0], .int .i64 (st t + idx t), .bool true]) ∧ Below w.heap.size w w' := by
  have hg := hr.lt
  have HP : Hid _ := hpass
  have HK : Hid _ := hskip
  have HL : Hid _ := hlast
  have HX : Hid _ := hix
  have HE : Hid _ := hse
  have HT : Hid (dl t = false) := hdt
  clear hpass hskip hlast hix hse hdt
  go_enter Try.func26, Try.ntmps26
  go_wp2_with fail
  go_loopw [1, 12] (fun iv kv wr => ∃ (k : Nat), k ≤ t ∧ kv = .int .i64 k ∧ iv = .int .i64 (idx k) ∧ (∃ f, wr.rowIs w.heap.size 51 5 f) ∧ Below w.heap.size w wr)
    (fun _ kv _ => m - (intOf kv).toNat)
  case atStart => 
    obtain ⟨f, hf⟩ := rowIs_new w #[.int .i64 0, .int .i64 0, .int .i64 0, .bool false, .slice none 0 0] 51 5 rfl
    exact ⟨0, Nat.zero_le _, rfl, rfl, ⟨f, hf⟩, (Below.refl _ _).alloc (Nat.le_refl _) _⟩
  case round =>
    obtain ⟨k, hk, rfl, rfl, ⟨f, hrr⟩, hbel⟩ := hrel
    have c0 : wr.cell? ⟨g, k * 5, none⟩ = some (.int .i64 0) := by rw [hbel.cell (by exact hg), hr.cell (by omega), piece0]
    have c1 : wr.cell? ⟨g, k * 5 + 1, none⟩ = some (.int .i64 (st k)) := by rw [hbel.cell (by exact hg), hr.cell (by omega), piece1]
    have c2 : wr.cell? ⟨g, k * 5 + 2, none⟩ = some (.int .i64 (en k)) := by rw [hbel.cell (by exact hg), hr.cell (by omega), piece2]
    have c3 : wr.cell? ⟨g, k * 5 + 3, none⟩ = some (.bool (dl k)) := by rw [hbel.cell (by exact hg), hr.cell (by omega), piece3]
    have c4 : wr.cell? ⟨g, k * 5 + 4, none⟩ = some (.slice none 0 0) := by rw [hbel.cell (by exact hg), hr.cell (by omega), piece4]
    have hkm : k < m := by omega
    obtain ⟨b1, b2⟩ := HX.out k hk
    obtain ⟨b3, b4, b5⟩ := HE.out k hk
    by_cases hkt : k < t
    · by_cases hd : dl k = true
      · have hn := HK.out k hkt hd
        have HN : Hid _ := hn
        rw [hd] at c3
        clear hn hd
        go_wp2_with fail
        go_roundw
        case rel => exact ⟨k + 1, by omega, by go_num, by rw [HN.out], ⟨f, hrr.alloc _⟩, hbel.alloc hbel.size _⟩
        case measure => simp [intOf]; omega
      · have hd' : dl k = false := by simpa using hd
        obtain ⟨hp, hn⟩ := HP.out k hkt hd'
        have HN : Hid _ := hn
        rw [hd'] at c3
        clear hn hd hd'
        go_wp2_with fail
        go_roundw
        case rel => exact ⟨k + 1, by omega, by go_num, by rw [HN.out], ⟨f, hrr.alloc _⟩, hbel.alloc hbel.size _⟩
        case measure => simp [intOf]; omega
    · obtain rfl : k = t := by omega
      have hd := HT.out
      have hl := HL.out
      rw [hd] at c3
      have n0 := hrr.cell (i := 0) (by omega)
      have n1 := hrr.cell (i := 1) (by omega)
      have n2 := hrr.cell (i := 2) (by omega)
      have n3 := hrr.cell (i := 3) (by omega)
      have n4 := hrr.cell (i := 4) (by omega)
      have z0 := hrr.frozen 0
      have z1 := hrr.frozen 1
      have z2 := hrr.frozen 2
      have z3 := hrr.frozen 3
      have z4 := hrr.frozen 4
      have hrl := hrr.lt
      have hl' : ¬ en k - st k ≤ idx k := by omega
      clear hd hl
      have hne : w.heap.size ≠ wr.heap.size := by omega
      have hne' : wr.heap.size ≠ w.heap.size := by omega
      go_wp2_with fail
      go_region
      all_goals go_wp2_with fail
      obtain ⟨q0, q1, q2, q3, q4⟩ := five_set hrr (.int .i64 0) (.int .i64 (st k)) (.int .i64 (en k)) (.bool false) (.slice none 0 0) (.cells #[.int .i64 0, .int .i64 (st k), .int .i64 (en k), .bool false, .slice none 0 0] 51)
      refine bodyPost_ret (v := .tuple #[.agg #[.int .i64 0, .int .i64 (st k), .int .i64 (en k), .bool false, .slice none 0 0], .int .i64 (st k + idx k), .bool true]) ?_ rfl ⟨rfl, ?_⟩
      · apply find_res (st k) (en k) (st k + idx k) _ w.heap.size _
        · rfl
        · rfl
        · rfl
        · exact q0
        · exact q1
        · exact q2
        · exact q3
        · exact q4
      · exact (((((((hbel.setCell (Nat.le_refl _) _).setCell (Nat.le_refl _) _).setCell (Nat.le_refl _) _).setCell (Nat.le_refl _) _).setCell (Nat.le_refl _) _).alloc (by simp; omega) _)).drew

end Go.Proofs.Qxb6602346a
