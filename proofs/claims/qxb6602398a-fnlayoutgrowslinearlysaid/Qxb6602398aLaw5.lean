/-
  THE WALK OF THE LAW FnLayOutGrowsLinearly.
-/
import Derived.Test.Qxb6602398aFits
import Derived.Test.Qxb6602398aLay
namespace Go.Proofs.Qxb6602398a
open Go.RowKit
set_option linter.unusedVariables false

set_option maxHeartbeats 400000 in
theorem law5_early (a : Option Addr) (n c : Nat) (w : World) (m0 : n ≤ maxLen) (h : 1048576 < n) :
    Calls Try.prog 5 #[.slice a n c] w fun e w' => e = .returned (.bool true) ∧ Below w.heap.size w w' := by
  unfold maxLen at m0
  go_enter Try.func5, Try.ntmps5
  go_wp2_with fail
  refine (bytes14 a n c _ (by unfold maxLen; omega)).mono ?_
  rintro e w1 ⟨⟨v, rfl, _⟩, rfl⟩
  cases v
  all_goals
    go_wp2_with fail
    go_ret
    exact ⟨rfl, Below.refl _ _⟩

set_option maxHeartbeats 400000 in
theorem law5_main (a : Option Addr) (n c : Nat) (f : Nat → Int) (w : World) (hn : n ≤ 1048576) (h0 : a = none → n = 0 ∧ c = 0) (hf : Bts w a n f) :
    Calls Try.prog 5 #[.slice a n c] w fun e w' => e = .returned (.bool true) ∧ Below w.heap.size w w' := by
  have H0 : Hid (a = none → n = 0 ∧ c = 0) := h0
  clear h0
  go_enter Try.func5, Try.ntmps5
  go_wp2_with fail
  refine (bytes14 a n c _ (by unfold maxLen; omega)).mono ?_
  rintro e w1 ⟨⟨v, rfl, _⟩, rfl⟩
  cases v
  · go_wp2_with fail
    go_ret
    exact ⟨rfl, Below.refl _ _⟩
  go_wp2_with fail
  refine (clone_any n c a f _ hn H0.out hf).mono ?_
  rintro e w1 ⟨a2, c2, rfl, hf2, hbel1⟩
  go_wp2_with fail
  refine (fits_any n c2 a2 f false _ hn hf2).mono ?_
  rintro e w2 ⟨⟨v, rfl, hv⟩, rfl⟩
  cases v
  · go_wp2_with fail
    go_ret
    exact ⟨rfl, hbel1⟩
  have hfit := hv rfl
  have HFit : Hid (Pl.Fit n f false) := hfit
  clear hv hfit
  go_wp2_with fail
  refine (zzlay_any n c2 a2 f _ hn hf2 false HFit.out).mono ?_
  rintro e w3 ⟨v, rfl, hown, hbel3⟩
  obtain ⟨a4, c4, hv⟩ := own_form hown
  rw [hv]
  have hb := Pl.lo_bounds f n
  have hbel := hbel1.trans (hbel3.mono hbel1.size)
  generalize (Pl.lo f n).1.length = m at *
  have g1 : decide ((n : Int) ≤ (m : Int)) = true := by simp; omega
  have g2 : decide ((m : Int) ≤ (n : Int) * 66) = true := by simp; omega
  clear hv hown
  go_wp2_with fail
  go_ret
  exact ⟨rfl, hbel⟩

end Go.Proofs.Qxb6602398a
