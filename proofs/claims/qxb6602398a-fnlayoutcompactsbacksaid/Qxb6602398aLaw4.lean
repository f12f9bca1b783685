/-
  THE WALK OF THE LAW FnLayOutCompactsBack.
-/
import Derived.Test.Qxb6602398aFits
import Derived.Test.Qxb6602398aLay
import Derived.Test.Qxb6602398aStripW
namespace Go.Proofs.Qxb6602398a
open Go.RowKit
set_option linter.unusedVariables false

theorem bts_congr {w : World} {a : Option Addr} {n : Nat} {f g : Nat → Int} (h : Bts w a n f) (e : ∀ i, i < n → f i = g i) : Bts w a n g := by
  rcases h with h | ⟨b, o, rfl, h⟩
  · exact .inl h
  · exact .inr ⟨b, o, rfl, fun j hj => by rw [h j hj, e j hj]⟩

set_option maxHeartbeats 400000 in
theorem law4_early (a : Option Addr) (n c : Nat) (w : World) (m0 : n ≤ maxLen) (h : 1048576 < n) :
    Calls Try.prog 4 #[.slice a n c] w fun e w' => e = .returned (.bool true) ∧ Below w.heap.size w w' := by
  unfold maxLen at m0
  go_enter Try.func4, Try.ntmps4
  go_wp2_with fail
  refine (bytes11 a n c _ (by unfold maxLen; omega)).mono ?_
  rintro e w1 ⟨⟨v, rfl, _⟩, rfl⟩
  cases v
  all_goals
    go_wp2_with fail
    go_ret
    exact ⟨rfl, Below.refl _ _⟩

set_option maxHeartbeats 400000 in
theorem law4_main (a : Option Addr) (n c : Nat) (f : Nat → Int) (w : World) (hn : n ≤ 1048576) (h0 : a = none → n = 0 ∧ c = 0) (hf : Bts w a n f) :
    Calls Try.prog 4 #[.slice a n c] w fun e w' => e = .returned (.bool true) ∧ Below w.heap.size w w' := by
  have H0 : Hid (a = none → n = 0 ∧ c = 0) := h0
  clear h0
  go_enter Try.func4, Try.ntmps4
  go_wp2_with fail
  refine (bytes11 a n c _ (by unfold maxLen; omega)).mono ?_
  rintro e w1 ⟨⟨v, rfl, _⟩, rfl⟩
  cases v
  · go_wp2_with fail
    go_ret
    exact ⟨rfl, Below.refl _ _⟩
  go_wp2_with fail
  refine (clone_any n c a f _ hn H0.out hf).mono ?_
  rintro e w1 ⟨a2, c2, rfl, hf2, hbel1⟩
  go_wp2_with fail
  refine (fits_any n c2 a2 f true _ hn hf2).mono ?_
  rintro e w2 ⟨⟨v, rfl, hv⟩, rfl⟩
  cases v
  · go_wp2_with fail
    go_ret
    exact ⟨rfl, hbel1⟩
  have hfit := hv rfl
  have HFit : Hid (Pl.Fit n f true) := hfit
  clear hv hfit
  go_wp2_with fail
  refine (zzlay_any n c2 a2 f _ hn hf2 true HFit.out).mono ?_
  rintro e w3 ⟨v, rfl, hown, hbel3⟩
  obtain ⟨a4, c4, hv⟩ := own_form hown
  rw [hv]
  have hb := Pl.lo_bounds f n
  have hback := Pl.strip_back f n HFit.out
  rw [hv] at hown
  obtain ⟨hlen, hbts⟩ := own_bts hown
  generalize (Pl.lo f n).1 = L at *
  have HL : Hid _ := hlen
  have HBK : Hid _ := hback
  have hf3 := bts_below hf2 hbel3
  have hbel := hbel1.trans (hbel3.mono hbel1.size)
  clear hv hown hlen hback
  go_wp2_with fail
  refine (strip_any L.length c4 a4 (fun j => L.getD j 0) _ (by omega) hbts).mono ?_
  rintro e w4 ⟨v, rfl, hown4, hbel4⟩
  rw [HBK.out] at hown4
  obtain ⟨a5, c5, hv5⟩ := own_form hown4
  rw [hv5] at hown4 ⊢
  obtain ⟨hlen5, hbts5⟩ := own_bts hown4
  rw [Pl.bytesOf_length] at hbts5 ⊢
  have hf4 := bts_below hf3 hbel4
  have hbel' := hbel.trans (hbel4.mono hbel.size)
  clear hv5 hown4 hlen5
  go_wp2_with fail
  refine (eq_any n c5 c2 a5 a2 f f _ (by omega) (bts_congr hbts5 (Pl.bytesOf_get f n)) hf4 (fun j _ => rfl)).mono ?_
  rintro e w5 ⟨rfl, m, rfl⟩
  go_wp2_with fail
  go_ret
  exact ⟨rfl, below_drewN hbel' _⟩

end Go.Proofs.Qxb6602398a
