/-
  THE WALKS OF jiModel AND OF THE LAW FnLayOutMatchesModel.
-/
import Derived.Test.Qxb6602398aConObj
import Derived.Test.Qxb6602398aLay
import Derived.Test.Qxb6602398aStripW
namespace Go.Proofs.Qxb6602398a
open Go.RowKit
set_option linter.unusedVariables false

theorem con_of (n b o c0 : Nat) (f : Nat → Int) (B : Nat) (w0 : World) (k : Nat) (hn : n ≤ 1048576) (hb : b < B) (hB : B ≤ w0.heap.size) (hf : ∀ j, j < n → w0.cell? ⟨b, o + j, none⟩ = some (.int .u8 (f j)))
    (hval : ValC n b o c0 f B w0 k) : ConC n b o c0 f B w0 (k + 1) := by
  intro pos depth v M w hk hp hop hown hbel hst
  rcases hop with h | h
  · exact con_obj n b o c0 f B w0 k hn hb hB hf hval pos depth v M w hk hp h hown hbel hst
  · exact con_arr n b o c0 f B w0 k hn hb hB hf hval pos depth v M w hk hp h hown hbel hst

theorem val_all (n b o c0 : Nat) (f : Nat → Int) (B : Nat) (w0 : World) (hn : n ≤ 1048576) (hb : b < B) (hB : B ≤ w0.heap.size) (hf : ∀ j, j < n → w0.cell? ⟨b, o + j, none⟩ = some (.int .u8 (f j))) (k : Nat) :
    ValC n b o c0 f B w0 k := by
  induction k with
  | zero => exact val_of n b o c0 f B w0 0 hn hb hB hf (fun pos depth v M w hk hp => by omega)
  | succ k ih => exact val_of n b o c0 f B w0 (k + 1) hn hb hB hf (con_of n b o c0 f B w0 k hn hb hB hf ih)

set_option maxHeartbeats 400000 in
theorem val_empty (a : Option Addr) (c0 : Nat) (v : Value) (w : World) :
    Calls Try.prog 15 #[.slice a 0 c0, .int .i64 0, .int .i64 0, v] w fun e w' => e = .returned (.tuple #[v, .int .i64 0, .bool false]) ∧ w = w' := by
  go_enter Try.func15, Try.ntmps15
  go_wp2_with fail
  go_ret3
  exact ⟨rfl, rfl⟩

/-- What jiModel answers. -/
def RetM (P : Value → Prop) (e : Ending) : Prop := ∃ v ok, e = .returned (.tuple #[v, .bool ok]) ∧ (ok = true → P v)

set_option maxHeartbeats 400000 in
theorem model_none (a : Option Addr) (c0 : Nat) (w : World) :
    Calls Try.prog 8 #[.slice a 0 c0] w fun e w' => RetM (fun _ => False) e ∧ Below w.heap.size w w' := by
  obtain ⟨i0, hi, hz0, hz1, hz2⟩ := info_parts Try.info5
  go_enter Try.func8, Try.ntmps8
  go_wp2_with (at_make; refine wpList_make_own _ rfl _ _ 22 rfl w.heap.size 5 i0 (.int .u8 0) 1 Try.underlying22 hi hz0 hz1 _ _ _ 0 rfl rfl (by omega) (by rw [hz2]; omega) (by unfold maxLen; omega) (Nat.le_refl _) ?_)
  intro w1 hown1 hgrow1
  have hbel1 : Below w.heap.size w w1 := (Below.refl _ _).grown hgrow1 (Nat.le_refl _) (fun k h => by cases h)
  clear hgrow1 hi hz0 hz1 hz2 hown1
  go_wp2_with fail
  refine (val_empty a c0 _ _).mono ?_
  rintro e w2 ⟨rfl, rfl⟩
  go_wp2_with fail
  go_ret2
  exact ⟨⟨_, false, rfl, fun h => by cases h⟩, hbel1⟩

set_option maxHeartbeats 400000 in
theorem model_some (n b o c0 : Nat) (f : Nat → Int) (w : World) (hn : n ≤ 1048576) (hb : b < w.heap.size) (hf : ∀ j, j < n → w.cell? ⟨b, o + j, none⟩ = some (.int .u8 (f j))) :
    Calls Try.prog 8 #[.slice (some ⟨b, o, none⟩) n c0] w fun e w' => RetM (fun v => Own w.heap.size w' v (Pl.lo f n).1 ∧ Pl.Fit n f false) e ∧ Below w.heap.size w w' := by
  have HV : Hid _ := val_all n b o c0 f w.heap.size w hn hb (Nat.le_refl _) hf n
  clear hf
  obtain ⟨i0, hi, hz0, hz1, hz2⟩ := info_parts Try.info5
  go_enter Try.func8, Try.ntmps8
  go_wp2_with (at_make; refine wpList_make_own _ rfl _ _ 22 rfl w.heap.size 5 i0 (.int .u8 0) 1 Try.underlying22 hi hz0 hz1 _ _ _ n rfl rfl (by omega) (by rw [hz2]; omega) (by unfold maxLen; omega) (Nat.le_refl _) ?_)
  intro w1 hown1 hgrow1
  have hbel1 : Below w.heap.size w w1 := (Below.refl _ _).grown hgrow1 (Nat.le_refl _) (fun k h => by cases h)
  have hown : Own w.heap.size w1 (.slice (some ⟨w.heap.size, 0, none⟩) 0 n) [] := hown1
  clear hgrow1 hi hz0 hz1 hz2 hown1
  go_wp2_with fail
  have hc := HV.out 0 0 _ [] w1 (by omega) (by omega) hown hbel1 (by simp) (by omega) (by omega) (fun _ _ => Pl.St.zero n f)
  refine Calls.mono hc ?_
  rintro e w2 ⟨⟨v, x, ok, rfl, hok⟩, hbel2⟩
  clear HV hown hc
  cases ok
  · clear hok
    go_wp2_with fail
    go_ret2
    exact ⟨⟨_, false, rfl, fun h => by cases h⟩, hbel2⟩
  obtain ⟨p, M, rfl, hp0, hpn, hown2, hst, hno⟩ := hok rfl
  have HST : Hid _ := hst
  clear hok hst hno
  by_cases hpe : p = n
  · subst hpe
    have e1 : ((p : Int) != (p : Int)) = false := by simp
    go_wp2_with fail
    go_ret2
    exact ⟨⟨_, true, rfl, fun _ => ⟨by rw [HST.out.out]; exact hown2, HST.out.fit⟩⟩, hbel2⟩
  · have e1 : ((p : Int) != (n : Int)) = true := by rw [bne_iff_ne]; omega
    go_wp2_with fail
    go_ret2
    exact ⟨⟨_, false, rfl, fun h => by cases h⟩, hbel2⟩

theorem model_any (n c0 : Nat) (a : Option Addr) (f : Nat → Int) (w : World) (hn : n ≤ 1048576) (hf : Bts w a n f) :
    Calls Try.prog 8 #[.slice a n c0] w fun e w' => RetM (fun v => Own w.heap.size w' v (Pl.lo f n).1 ∧ Pl.Fit n f false) e ∧ Below w.heap.size w w' := by
  rcases hf with rfl | ⟨b, o, rfl, hf⟩
  · refine (model_none a c0 w).mono ?_
    rintro e w1 ⟨⟨v, ok, rfl, h⟩, hb⟩
    exact ⟨⟨v, ok, rfl, fun h2 => (h h2).elim⟩, hb⟩
  · by_cases h0 : n = 0
    · subst h0
      refine (model_none _ c0 w).mono ?_
      rintro e w1 ⟨⟨v, ok, rfl, h⟩, hb⟩
      exact ⟨⟨v, ok, rfl, fun h2 => (h h2).elim⟩, hb⟩
    · exact model_some n b o c0 f w hn (block_lt_of_cell (hf 0 (by omega))) hf

set_option maxHeartbeats 400000 in
theorem law3_early (a : Option Addr) (n c : Nat) (w : World) (m0 : n ≤ maxLen) (h : 1048576 < n) :
    Calls Try.prog 3 #[.slice a n c] w fun e w' => e = .returned (.bool true) ∧ Below w.heap.size w w' := by
  unfold maxLen at m0
  go_enter Try.func3, Try.ntmps3
  go_wp2_with fail
  refine (bytes6 a n c _ (by unfold maxLen; omega)).mono ?_
  rintro e w1 ⟨⟨v, rfl, _⟩, rfl⟩
  cases v
  all_goals
    go_wp2_with fail
    go_ret
    exact ⟨rfl, Below.refl _ _⟩

set_option maxHeartbeats 800000 in
theorem law3_main (a : Option Addr) (n c : Nat) (f : Nat → Int) (w : World) (hn : n ≤ 1048576) (h0 : a = none → n = 0 ∧ c = 0) (hf : Bts w a n f) :
    Calls Try.prog 3 #[.slice a n c] w fun e w' => e = .returned (.bool true) ∧ Below w.heap.size w w' := by
  have H0 : Hid (a = none → n = 0 ∧ c = 0) := h0
  clear h0
  go_enter Try.func3, Try.ntmps3
  go_wp2_with fail
  refine (bytes6 a n c _ (by unfold maxLen; omega)).mono ?_
  rintro e w1 ⟨⟨v, rfl, _⟩, rfl⟩
  cases v
  · go_wp2_with fail
    go_ret
    exact ⟨rfl, Below.refl _ _⟩
  go_wp2_with fail
  refine (clone_any n c a f _ hn H0.out hf).mono ?_
  rintro e w1 ⟨a2, c2, rfl, hf2, hbel1⟩
  go_wp2_with fail
  refine (model_any n c2 a2 f _ hn hf2).mono ?_
  rintro e w2 ⟨⟨v2, ok, rfl, hok⟩, hbel2⟩
  have hbel12 := hbel1.trans (hbel2.mono hbel1.size)
  cases ok
  · clear hok
    go_wp2_with fail
    go_ret
    exact ⟨rfl, hbel12⟩
  obtain ⟨hown2, hfit⟩ := hok rfl
  have HFit : Hid (Pl.Fit n f false) := hfit
  have hf3 := bts_below hf2 hbel2
  clear hok hfit
  obtain ⟨a3, c3, hv3⟩ := own_form hown2
  rw [hv3] at hown2 ⊢
  obtain ⟨hl3, hbts3⟩ := own_bts hown2
  clear hv3 hown2
  go_wp2_with fail
  refine (zzlay_any n c2 a2 f _ hn hf3 false HFit.out).mono ?_
  rintro e w4 ⟨v4, rfl, hown4, hbel4⟩
  obtain ⟨a5, c5, hv5⟩ := own_form hown4
  rw [hv5] at hown4 ⊢
  obtain ⟨hl5, hbts5⟩ := own_bts hown4
  have hbts4 := bts_below hbts3 hbel4
  have hbel' := hbel12.trans (hbel4.mono hbel12.size)
  have hlb := Pl.lo_bounds f n
  generalize (Pl.lo f n).1 = L at *
  clear hv5 hown4 hl5 hl3 hbts3 hbel4 hbel12
  go_wp2_with fail
  refine (eq_any L.length c5 c3 a5 a3 _ _ _ (by omega) hbts5 hbts4 (fun j _ => rfl)).mono ?_
  rintro e w5 ⟨rfl, m, rfl⟩
  go_wp2_with fail
  go_ret
  exact ⟨rfl, below_drewN hbel' _⟩

end Go.Proofs.Qxb6602398a
