/-
  THE WALK OF jiFitsLayOut.
-/
import Derived.Test.Qxb6602398aBase
import Derived.Test.Qxb6602398aStr
namespace Go.Proofs.Qxb6602398a
open Go.RowKit
set_option linter.unusedVariables false

theorem ne_of_beq {c d : Int} (h : (c == d) = false) : ¬ c = d := by simpa using h

theorem fit_ok {n k : Nat} {f : Nat → Int} {fw : Bool} {c : Int} (hc : c = f k) (h3 : ¬ c = 125) (h4 : ¬ c = 93) (h5 : ¬ c = 123) (h6 : ¬ c = 91) (h1 : fw = true → ¬ c = 32 ∧ ¬ c = 10) :
    (fw = true → ¬ f k = 32 ∧ ¬ f k = 10) ∧ (f k = 125 ∨ f k = 93 → ¬ k = 0) ∧ (f k = 123 ∨ f k = 91 → k + 1 < n) := by
  rw [← hc]
  exact ⟨h1, fun h => by rcases h with h | h <;> contradiction, fun h => by rcases h with h | h <;> contradiction⟩

set_option maxRecDepth 10000 in
set_option maxHeartbeats 1600000 in
theorem fits_some (n b o c0 : Nat) (f : Nat → Int) (fw : Bool) (w : World) (hn : n ≤ 1048576) (hf : ∀ j, j < n → w.cell? ⟨b, o + j, none⟩ = some (.int .u8 (f j))) :
    Calls Try.prog 12 #[.slice (some ⟨b, o, none⟩) n c0, .bool fw] w fun e w' => RetB (Pl.Fit n f fw) e ∧ w = w' := by
  have HF : Hid (∀ j, j < n → w.cell? ⟨b, o + j, none⟩ = some (.int .u8 (f j))) := hf
  clear hf
  go_enter Try.func12, Try.ntmps12
  go_wp2_with fail
  go_loop [5, 6, 8] (fun pv qv i => ∃ (k : Nat) (p q : Bool), k ≤ n ∧ i = .int .i64 k ∧ pv = .bool p ∧ qv = .bool q ∧ Hid (Pl.ss f k = (p, q)) ∧ Hid (∀ t, t < k → Pl.FitAt n f fw t))
    (fun _ _ i => n - (intOf i).toNat)
  case atStart => exact ⟨0, false, false, Nat.zero_le _, rfl, rfl, rfl, rfl, fun t ht => by omega⟩
  case round =>
    obtain ⟨k, p, q, hk, rfl, rfl, rfl, HS, H⟩ := hrel
    by_cases hlt : k < n
    · obtain ⟨c, hc⟩ : ∃ c, c = f k := ⟨_, rfl⟩
      have cc : w.cell? ⟨b, o + k, none⟩ = some (.int .u8 c) := by rw [HF.out k hlt, hc]
      have hnx := Pl.ss_next HS.out hc
      have HC : Hid (c = f k) := hc
      have HN : Hid (Pl.ss f (k + 1) = Pl.ssStep (p, q) c) := hnx
      clear hc hnx
      cases p
      · rcases Pl.cls c with rfl | rfl | rfl | rfl | rfl | rfl | rfl | ⟨e1, e2, e3, e4, e5, e6, e7⟩
        · cases fw
          · go_wp2_with fail
            go_round
            case rel => exact ⟨k + 1, false, q, by omega, by go_num, rfl, rfl, HN.out.trans rfl, Pl.fit_step H.out (fun _ => fit_ok HC.out (by decide) (by decide) (by decide) (by decide) (fun h => by cases h))⟩
            case measure => simp [intOf]; omega
          · go_wp2_with fail
            go_ret
            exact ⟨⟨false, rfl, fun h => by cases h⟩, rfl⟩
        · cases fw
          · go_wp2_with fail
            go_round
            case rel => exact ⟨k + 1, false, q, by omega, by go_num, rfl, rfl, HN.out.trans rfl, Pl.fit_step H.out (fun _ => fit_ok HC.out (by decide) (by decide) (by decide) (by decide) (fun h => by cases h))⟩
            case measure => simp [intOf]; omega
          · go_wp2_with fail
            go_ret
            exact ⟨⟨false, rfl, fun h => by cases h⟩, rfl⟩
        · by_cases hk0 : k = 0
          · have hk0' : ((k : Int) == 0) = true := by rw [beq_iff_eq]; omega
            clear hk0
            cases fw
            all_goals
              go_wp2_with fail
              go_ret
              exact ⟨⟨false, rfl, fun h => by cases h⟩, rfl⟩
          · have hk0' : ((k : Int) == 0) = false := by rw [beq_eq_false_iff_ne]; omega
            cases fw
            all_goals
              go_wp2_with fail
              go_round
              case rel => exact ⟨k + 1, false, q, by omega, by go_num, rfl, rfl, HN.out.trans rfl, Pl.fit_step H.out (fun _ => ⟨fun _ => by rw [← HC.out]; decide, fun _ => hk0, fun h => by rw [← HC.out] at h; omega⟩)⟩
              case measure => simp [intOf]; omega
        · by_cases hk0 : k = 0
          · have hk0' : ((k : Int) == 0) = true := by rw [beq_iff_eq]; omega
            clear hk0
            cases fw
            all_goals
              go_wp2_with fail
              go_ret
              exact ⟨⟨false, rfl, fun h => by cases h⟩, rfl⟩
          · have hk0' : ((k : Int) == 0) = false := by rw [beq_eq_false_iff_ne]; omega
            cases fw
            all_goals
              go_wp2_with fail
              go_round
              case rel => exact ⟨k + 1, false, q, by omega, by go_num, rfl, rfl, HN.out.trans rfl, Pl.fit_step H.out (fun _ => ⟨fun _ => by rw [← HC.out]; decide, fun _ => hk0, fun h => by rw [← HC.out] at h; omega⟩)⟩
              case measure => simp [intOf]; omega
        · by_cases hk0 : k + 1 = n
          · have hk0' : ((k : Int) == (n : Int) - 1) = true := by rw [beq_iff_eq]; omega
            clear hk0
            cases fw
            all_goals
              go_wp2_with fail
              go_ret
              exact ⟨⟨false, rfl, fun h => by cases h⟩, rfl⟩
          · have hk0' : ((k : Int) == (n : Int) - 1) = false := by rw [beq_eq_false_iff_ne]; omega
            cases fw
            all_goals
              go_wp2_with fail
              go_round
              case rel => exact ⟨k + 1, false, q, by omega, by go_num, rfl, rfl, HN.out.trans rfl, Pl.fit_step H.out (fun _ => ⟨fun _ => by rw [← HC.out]; decide, fun h => by rw [← HC.out] at h; omega, fun _ => by omega⟩)⟩
              case measure => simp [intOf]; omega
        · by_cases hk0 : k + 1 = n
          · have hk0' : ((k : Int) == (n : Int) - 1) = true := by rw [beq_iff_eq]; omega
            clear hk0
            cases fw
            all_goals
              go_wp2_with fail
              go_ret
              exact ⟨⟨false, rfl, fun h => by cases h⟩, rfl⟩
          · have hk0' : ((k : Int) == (n : Int) - 1) = false := by rw [beq_eq_false_iff_ne]; omega
            cases fw
            all_goals
              go_wp2_with fail
              go_round
              case rel => exact ⟨k + 1, false, q, by omega, by go_num, rfl, rfl, HN.out.trans rfl, Pl.fit_step H.out (fun _ => ⟨fun _ => by rw [← HC.out]; decide, fun h => by rw [← HC.out] at h; omega, fun _ => by omega⟩)⟩
              case measure => simp [intOf]; omega
        · cases fw
          all_goals
            go_wp2_with fail
            go_round
            case rel => exact ⟨k + 1, true, q, by omega, by go_num, rfl, rfl, HN.out.trans rfl, Pl.fit_step H.out (fun _ => fit_ok HC.out (by decide) (by decide) (by decide) (by decide) (fun _ => by decide))⟩
            case measure => simp [intOf]; omega
        · have d1 := ne_of_beq e1
          have d2 := ne_of_beq e2
          have d3 := ne_of_beq e3
          have d4 := ne_of_beq e4
          have d5 := ne_of_beq e5
          have d6 := ne_of_beq e6
          have d7 := ne_of_beq e7
          have D := fun (fw : Bool) => fit_ok (fw := fw) HC.out d3 d4 d5 d6 (fun _ => ⟨d1, d2⟩) (n := n)
          have HD := fun fw => (D fw : Hid _)
          clear D
          have HN2 : Hid (Pl.ss f (k + 1) = (false, q)) := HN.out.trans (by simp [Pl.ssStep, d7])
          clear d1 d2 d3 d4 d5 d6 d7
          cases fw
          all_goals
            go_wp2_with fail
            go_round
            case rel => exact ⟨k + 1, false, q, by omega, by go_num, rfl, rfl, HN2.out, Pl.fit_step H.out (fun _ => HD _)⟩
            case measure => simp [intOf]; omega
      · cases q
        · by_cases h92 : c = 92
          · subst h92
            go_wp2_with fail
            go_round
            case rel => exact ⟨k + 1, true, true, by omega, by go_num, rfl, rfl, HN.out.trans rfl, Pl.fit_step H.out (fun h => by rw [HS.out] at h; cases h)⟩
            case measure => simp [intOf]; omega
          · by_cases h34 : c = 34
            · subst h34
              go_wp2_with fail
              go_round
              case rel => exact ⟨k + 1, false, false, by omega, by go_num, rfl, rfl, HN.out.trans rfl, Pl.fit_step H.out (fun h => by rw [HS.out] at h; cases h)⟩
              case measure => simp [intOf]; omega
            · have e92 : (c == 92) = false := by simpa using h92
              have e34 : (c == 34) = false := by simpa using h34
              go_wp2_with fail
              go_round
              case rel => exact ⟨k + 1, true, false, by omega, by go_num, rfl, rfl, HN.out.trans (by simp [Pl.ssStep, h92, h34]), Pl.fit_step H.out (fun h => by rw [HS.out] at h; cases h)⟩
              case measure => simp [intOf]; omega
        · go_wp2_with fail
          go_round
          case rel => exact ⟨k + 1, true, false, by omega, by go_num, rfl, rfl, HN.out.trans rfl, Pl.fit_step H.out (fun h => by rw [HS.out] at h; cases h)⟩
          case measure => simp [intOf]; omega
    · go_wp2_with fail
      go_ret
      exact ⟨⟨true, rfl, fun _ t ht => H.out t (by omega)⟩, rfl⟩

set_option maxHeartbeats 400000 in
theorem fits_none (a : Option Addr) (c0 : Nat) (f : Nat → Int) (fw : Bool) (w : World) :
    Calls Try.prog 12 #[.slice a 0 c0, .bool fw] w fun e w' => RetB (Pl.Fit 0 f fw) e ∧ w = w' := by
  go_enter Try.func12, Try.ntmps12
  go_wp2_with fail
  refine wp_loop_rounds 1 ?_
  rw [rounds_succ]
  go_wp2_with fail
  go_ret
  exact ⟨⟨true, rfl, fun _ t ht => by omega⟩, rfl⟩

theorem fits_any (n c0 : Nat) (a : Option Addr) (f : Nat → Int) (fw : Bool) (w : World) (hn : n ≤ 1048576) (hf : Bts w a n f) :
    Calls Try.prog 12 #[.slice a n c0, .bool fw] w fun e w' => RetB (Pl.Fit n f fw) e ∧ w = w' := by
  rcases hf with rfl | ⟨b, o, rfl, hf⟩
  · exact fits_none a c0 f fw w
  · exact fits_some n b o c0 f fw w hn hf

end Go.Proofs.Qxb6602398a
