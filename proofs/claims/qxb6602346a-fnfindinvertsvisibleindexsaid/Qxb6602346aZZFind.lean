/-
  THE WALK OF ZZFind.
-/
import Derived.Test.Qxb6602346aFind
namespace Go.Proofs.Qxb6602346a
open Go.RowKit
set_option linter.unusedVariables false

theorem Try.info51 : (Try.prog.info? 51).map (fun i => (i.zero, i.size, i.bytes)) = some (some (.agg #[.int .i64 0, .int .i64 0, .int .i64 0, .bool false, .slice none 0 0]), 5, 56) := by kernel_rfl

theorem piece_step {st en : Nat → Int} {dl : Nat → Bool} {k : Nat} {f : Nat → Value} (hf : ∀ j, j < k * 5 → f j = pieceCell st en dl j) :
    ∀ j, j < (k + 1) * 5 → (fun j => if j = k * 5 + 4 then Value.slice none 0 0 else (fun j => if j = k * 5 + 3 then Value.bool (dl k) else (fun j => if j = k * 5 + 2 then Value.int .i64 (en k) else (fun j => if j = k * 5 + 1 then Value.int .i64 (st k) else (fun j => if j = k * 5 then Value.int .i64 0 else f j) j) j) j) j) j = pieceCell st en dl j := by
  intro j hj
  dsimp only
  split
  · subst j; rw [piece4]
  split
  · subst j; rw [piece3]
  split
  · subst j; rw [piece2]
  split
  · subst j; rw [piece1]
  split
  · subst j; rw [piece0]
  · exact hf j (by omega)

set_option maxRecDepth 10000 in
set_option maxHeartbeats 1600000 in
theorem zzfind_any (st en : Nat → Int) (dl : Nat → Bool) (m t g0 g1 g2 g3 g4 : Nat) (idx : Nat → Int) (w : World) (hm : m ≤ 131073) (ht : t < m)
    (r0 : w.rowIs g0 3 m (fun _ => .int .i64 0)) (r1 : w.rowIs g1 3 m (intCell st)) (r2 : w.rowIs g2 3 m (intCell en)) (r3 : w.rowIs g3 4 m (fun j => .bool (dl j))) (r4 : w.rowIs g4 32 m (fun _ => .slice none 0 0))
    (hdt : dl t = false) (hpass : ∀ k, k < t → dl k = false → en k - st k ≤ idx k ∧ idx (k + 1) = idx k - (en k - st k)) (hskip : ∀ k, k < t → dl k = true → idx (k + 1) = idx k)
    (hlast : idx t < en t - st t) (hix : ∀ k, k ≤ t → 0 ≤ idx k ∧ idx k ≤ 9223372036854775807) (hse : ∀ k, k ≤ t → 0 ≤ st k ∧ st k ≤ en k ∧ en k ≤ 9223372036854775807) :
    Calls Try.prog 20 #[.slice (some ⟨g0, 0, none⟩) m m, .slice (some ⟨g1, 0, none⟩) m m, .slice (some ⟨g2, 0, none⟩) m m, .slice (some ⟨g3, 0, none⟩) m m, .slice (some ⟨g4, 0, none⟩) m m, .int .i64 (idx 0)] w fun e w' =>
      e = .returned (.tuple #[.int .i64 0, .int .i64 (st t), .int .i64 (en t), .bool false, .slice none 0 0, .int .i64 (st t + idx t), .bool true]) ∧ Below w.heap.size w w' := by
  have HP : Hid _ := hpass
  have HK : Hid _ := hskip
  have HL : Hid _ := hlast
  have HX : Hid _ := hix
  have HE : Hid _ := hse
  have HT : Hid (dl t = false) := hdt
  clear hpass hskip hlast hix hse hdt
  have l0 := r0.lt
  have l1 := r1.lt
  have l2 := r2.lt
  have l3 := r3.lt
  have l4 := r4.lt
  have hmk := run_make_any (P := Try.prog) 49 51 _ 5 56 Try.underlying49 Try.info51 m (by omega) (by omega)
  go_enter Try.func20, Try.ntmps20
  go_wp2_with fail
  go_loopw [20] (fun kv wr => ∃ (k : Nat) (f : Nat → Value), k ≤ m ∧ kv = .int .i64 k ∧ wr.rowIs w.heap.size 51 (m * 5) f ∧ (∀ j, j < k * 5 → f j = pieceCell st en dl j) ∧ Below w.heap.size w wr)
    (fun kv _ => m - (intOf kv).toNat)
  case atStart =>
    obtain ⟨f, hf⟩ := rowIs_new w (madeCells #[.int .i64 0, .int .i64 0, .int .i64 0, .bool false, .slice none 0 0] (m * 5)) 51 (m * 5) (size_madeCells _ _)
    exact ⟨0, f, Nat.zero_le _, rfl, hf, fun j hj => by omega, (Below.refl _ _).alloc (Nat.le_refl _) _⟩
  case round =>
    obtain ⟨k, f, hk, rfl, hr, hf, hbel⟩ := hrel
    by_cases hlt : k < m
    · have c0 : wr.cell? ⟨g0, k, none⟩ = some (.int .i64 0) := by rw [hbel.cell (by exact l0), r0.cell hlt]
      have c1 : wr.cell? ⟨g1, k, none⟩ = some (.int .i64 (st k)) := by rw [hbel.cell (by exact l1), r1.cell hlt]; rfl
      have c2 : wr.cell? ⟨g2, k, none⟩ = some (.int .i64 (en k)) := by rw [hbel.cell (by exact l2), r2.cell hlt]; rfl
      have c3 : wr.cell? ⟨g3, k, none⟩ = some (.bool (dl k)) := by rw [hbel.cell (by exact l3), r3.cell hlt]
      have c4 : wr.cell? ⟨g4, k, none⟩ = some (.slice none 0 0) := by rw [hbel.cell (by exact l4), r4.cell hlt]
      have n0 := hr.cell (i := k * 5) (by omega)
      have n1 := hr.cell (i := k * 5 + 1) (by omega)
      have n2 := hr.cell (i := k * 5 + 2) (by omega)
      have n3 := hr.cell (i := k * 5 + 3) (by omega)
      have n4 := hr.cell (i := k * 5 + 4) (by omega)
      have z0 := hr.frozen (k * 5)
      have z1 := hr.frozen (k * 5 + 1)
      have z2 := hr.frozen (k * 5 + 2)
      have z3 := hr.frozen (k * 5 + 3)
      have z4 := hr.frozen (k * 5 + 4)
      go_wp2_with fail
      go_region
      all_goals go_wp2_with fail
      all_goals
        go_roundw
        case rel => exact ⟨k + 1, _, by omega, by go_num, ((((hr.set _ _).set _ _).set _ _).set _ _).set _ _, piece_step hf, (((((hbel.setCell (Nat.le_refl _) _).setCell (Nat.le_refl _) _).setCell (Nat.le_refl _) _).setCell (Nat.le_refl _) _).setCell (Nat.le_refl _) _).drew⟩
        case measure => simp [intOf]; omega
    · obtain rfl : k = m := by omega
      have hr' := hr.congr hf
      clear hr hf
      go_wp2_with fail
      refine (find_any st en dl k t w.heap.size idx _ hm ht hr' HT.out HP.out HK.out HL.out HX.out HE.out).mono ?_
      rintro e w2 ⟨rfl, hb2⟩
      have hbel2 := hbel.trans (hb2.mono hbel.size)
      clear hb2 hr' HP HK HL HX HE HT
      go_wp2_with fail
      go_quiet (fail)
      go_wp2_with fail
      refine bodyPost_ret (v := .tuple #[.int .i64 0, .int .i64 (st t), .int .i64 (en t), .bool false, .slice none 0 0, .int .i64 (st t + idx t), .bool true]) (by simp [results, Try.results20, go_sem]) rfl ⟨rfl, ?_⟩
      exact below_drewN (hbel2.alloc hbel2.size _) _

end Go.Proofs.Qxb6602346a
