/-
  THE WALK OF jiString.
-/
import Derived.Test.Qxb6602398aSmall
namespace Go.Proofs.Qxb6602398a
open Go.RowKit
set_option linter.unusedVariables false

/-- From pos + 1 up to i the bytes lie inside the string that opens at pos, and no escape is open at i. -/
structure InStr (f : Nat → Int) (pos i : Nat) : Prop where
  at_ : Pl.ss f i = (true, false)
  all : ∀ k, pos < k → k ≤ i → (Pl.ss f k).1 = true
  lt : pos < i

theorem ss_in {f : Nat → Int} {i : Nat} (h : Pl.ss f i = (true, false)) (h34 : ¬ f i = 34) (h92 : ¬ f i = 92) : Pl.ss f (i + 1) = (true, false) := by
  rw [Pl.ss, h]; simp [Pl.ssStep, h34, h92]
theorem ss_slash {f : Nat → Int} {i : Nat} (h : Pl.ss f i = (true, false)) (h92 : f i = 92) : Pl.ss f (i + 1) = (true, true) := by
  rw [Pl.ss, h, h92]; rfl
theorem ss_esc {f : Nat → Int} {i : Nat} (h : Pl.ss f i = (true, true)) : Pl.ss f (i + 1) = (true, false) := by
  rw [Pl.ss, h]; rfl
theorem ss_quote {f : Nat → Int} {i : Nat} (h : Pl.ss f i = (true, false)) (h34 : f i = 34) : Pl.ss f (i + 1) = (false, false) := by
  rw [Pl.ss, h, h34]; rfl

theorem InStr.next {f : Nat → Int} {pos i : Nat} (h : InStr f pos i) {q : Bool} (hq : Pl.ss f (i + 1) = (true, q)) : ∀ k, pos < k → k ≤ i + 1 → (Pl.ss f k).1 = true := by
  intro k a b
  by_cases h2 : k ≤ i
  · exact h.all k a h2
  · obtain rfl : k = i + 1 := by omega
    rw [hq]
theorem InStr.plain {f : Nat → Int} {pos i : Nat} (h : InStr f pos i) (h34 : ¬ f i = 34) (h92 : ¬ f i = 92) : InStr f pos (i + 1) :=
  ⟨ss_in h.at_ h34 h92, h.next (ss_in h.at_ h34 h92), by have := h.lt; omega⟩
theorem InStr.esc {f : Nat → Int} {pos i : Nat} (h : InStr f pos i) (h92 : f i = 92) : InStr f pos (i + 2) := by
  have e1 := ss_slash h.at_ h92
  have e2 := ss_esc e1
  have a1 := h.next e1
  refine ⟨e2, fun k a b => ?_, by have := h.lt; omega⟩
  by_cases h2 : k ≤ i + 1
  · exact a1 k a h2
  · obtain rfl : k = i + 2 := by omega
    rw [e2]

theorem InStr.start {f : Nat → Int} {pos : Nat} (h : Pl.ss f (pos + 1) = (true, false)) : InStr f pos (pos + 1) := by
  refine ⟨h, fun k a b => ?_, by omega⟩
  obtain rfl : k = pos + 1 := by omega
  rw [h]
theorem InStr.hex {f : Nat → Int} {pos i : Nat} (h : InStr f pos (i + 2)) (h2 : ¬ f (i + 2) = 34 ∧ ¬ f (i + 2) = 92) (h3 : ¬ f (i + 3) = 34 ∧ ¬ f (i + 3) = 92) (h4 : ¬ f (i + 4) = 34 ∧ ¬ f (i + 4) = 92) (h5 : ¬ f (i + 5) = 34 ∧ ¬ f (i + 5) = 92) : InStr f pos (i + 6) :=
  (((h.plain h2.1 h2.2).plain h3.1 h3.2).plain h4.1 h4.2).plain h5.1 h5.2

/-- What jiString tells where it says yes. -/
def StrOk (n : Nat) (f : Nat → Int) (pos : Nat) (en : Int) : Prop :=
  ∃ j : Nat, en = pos + 1 + j ∧ pos + 1 + j ≤ n ∧ 0 < j ∧ (∀ k, pos < k → k < pos + 1 + j → (Pl.ss f k).1 = true) ∧ Pl.ss f (pos + 1 + j) = (false, false) ∧ f (pos + j) = 34

theorem InStr.done {n : Nat} {f : Nat → Int} {pos i : Nat} (h : InStr f pos i) (hi : i < n) (h34 : f i = 34) : StrOk n f pos ((i : Int) + 1) := by
  have hlt := h.lt
  refine ⟨i - pos, by omega, by omega, by omega, fun k a b => h.all k a (by omega), ?_, ?_⟩
  · rw [show pos + 1 + (i - pos) = i + 1 by omega]; exact ss_quote h.at_ h34
  · rw [show pos + (i - pos) = i by omega]; exact h34

/-- A pair is returned: a number and a Bool; where that is true, P holds of the number. -/
def RetP (P : Int → Prop) (e : Ending) : Prop := ∃ x v, e = .returned (.tuple #[.int .i64 x, .bool v]) ∧ (v = true → P x)

theorem ecls (e : Int) : (e = 34 ∨ e = 92 ∨ e = 47 ∨ e = 98 ∨ e = 102 ∨ e = 110 ∨ e = 114 ∨ e = 116) ∨ e = 117 ∨
    ((e == 34) = false ∧ (e == 92) = false ∧ (e == 47) = false ∧ (e == 98) = false ∧ (e == 102) = false ∧ (e == 110) = false ∧ (e == 114) = false ∧ (e == 116) = false ∧ (e != 117) = true) := by
  by_cases h : (e = 34 ∨ e = 92 ∨ e = 47 ∨ e = 98 ∨ e = 102 ∨ e = 110 ∨ e = 114 ∨ e = 116)
  · exact .inl h
  by_cases h2 : e = 117
  · exact .inr (.inl h2)
  refine .inr (.inr ?_)
  simp only [not_or] at h
  obtain ⟨h1, h3, h4, h5, h6, h7, h8, h9⟩ := h
  simp [h1, h2, h3, h4, h5, h6, h7, h8, h9]

set_option maxRecDepth 10000 in
set_option maxHeartbeats 3200000 in
theorem string_any (n b o c0 pos : Nat) (f : Nat → Int) (w : World) (hn : n ≤ 1048576) (hp : pos < n) (hf : ∀ j, j < n → w.cell? ⟨b, o + j, none⟩ = some (.int .u8 (f j))) (hs : Pl.ss f (pos + 1) = (true, false)) :
    Calls Try.prog 18 #[.slice (some ⟨b, o, none⟩) n c0, .int .i64 pos] w fun e w' => RetP (StrOk n f pos) e ∧ w = w' := by
  have HF : Hid (∀ j, j < n → w.cell? ⟨b, o + j, none⟩ = some (.int .u8 (f j))) := hf
  have HS : Hid _ := hs
  clear hf hs
  go_enter Try.func18, Try.ntmps18
  go_wp2_with fail
  go_loop [6] (fun iv => ∃ i : Nat, i ≤ n ∧ iv = .int .i64 i ∧ Hid (InStr f pos i)) (fun iv => n - (intOf iv).toNat)
  case atStart => exact ⟨pos + 1, by omega, by go_num, InStr.start HS.out⟩
  case round =>
    obtain ⟨i, hi, rfl, HI⟩ := hrel
    by_cases hlt : i < n
    · obtain ⟨c, hc⟩ : ∃ c, c = f i := ⟨_, rfl⟩
      have cc : w.cell? ⟨b, o + i, none⟩ = some (.int .u8 c) := by rw [HF.out i hlt, hc]
      have HC : Hid (c = f i) := hc
      clear hc
      by_cases h34 : c = 34
      · subst h34
        go_wp2_with fail
        go_ret2
        exact ⟨⟨_, true, rfl, fun _ => HI.out.done hlt HC.out.symm⟩, rfl⟩
      by_cases h20 : c < 32
      · have e34 : (c == 34) = false := by simpa using h34
        clear h34
        go_wp2_with fail
        go_ret2
        exact ⟨⟨_, false, rfl, fun h => by cases h⟩, rfl⟩
      by_cases h92 : c = 92
      rotate_left
      · have HN : Hid (InStr f pos (i + 1)) := HI.out.plain (by rw [← HC.out]; exact h34) (by rw [← HC.out]; exact h92)
        have e34 : (c == 34) = false := by simpa using h34
        have e92 : (c != 92) = true := by simpa using h92
        clear h34 h92
        go_wp2_with fail
        go_round
        case rel => exact ⟨i + 1, by omega, by go_num, HN.out⟩
        case measure => simp [intOf]; omega
      subst h92
      clear h34 h20
      by_cases h1 : i + 1 < n
      rotate_left
      · go_wp2_with fail
        go_ret2
        exact ⟨⟨_, false, rfl, fun h => by cases h⟩, rfl⟩
      have HN : Hid (InStr f pos (i + 2)) := HI.out.esc HC.out.symm
      obtain ⟨e, he⟩ : ∃ e, e = f (i + 1) := ⟨_, rfl⟩
      have ce : w.cell? ⟨b, o + (i + 1), none⟩ = some (.int .u8 e) := by rw [HF.out (i + 1) h1, he]
      have HEE : Hid (e = f (i + 1)) := he
      clear he
      rcases ecls e with h | rfl | ⟨d1, d2, d3, d4, d5, d6, d7, d8, d9⟩
      · rcases h with rfl | rfl | rfl | rfl | rfl | rfl | rfl | rfl
        all_goals
          go_wp2_with fail
          go_round
          case rel => exact ⟨i + 2, by omega, by go_num, HN.out⟩
          case measure => simp [intOf]; omega
      · by_cases h5 : i + 5 < n
        · have x2 := HF.out (i + 2) (by omega)
          have x3 := HF.out (i + 3) (by omega)
          have x4 := HF.out (i + 4) (by omega)
          have x5 := HF.out (i + 5) (by omega)
          have h5' : ¬ (n : Int) ≤ (i : Int) + 5 := by omega
          go_wp2_with fail
          refine (hex_any (f (i + 2)) _).mono ?_
          rintro e w1 ⟨⟨v, rfl, hv⟩, rfl⟩
          cases v
          · go_wp2_with fail
            go_ret2
            exact ⟨⟨_, false, rfl, fun h => by cases h⟩, rfl⟩
          have H2 : Hid _ := hv rfl
          clear hv
          go_wp2_with fail
          refine (hex_any (f (i + 3)) _).mono ?_
          rintro e w1 ⟨⟨v, rfl, hv⟩, rfl⟩
          cases v
          · go_wp2_with fail
            go_ret2
            exact ⟨⟨_, false, rfl, fun h => by cases h⟩, rfl⟩
          have H3 : Hid _ := hv rfl
          clear hv
          go_wp2_with fail
          refine (hex_any (f (i + 4)) _).mono ?_
          rintro e w1 ⟨⟨v, rfl, hv⟩, rfl⟩
          cases v
          · go_wp2_with fail
            go_ret2
            exact ⟨⟨_, false, rfl, fun h => by cases h⟩, rfl⟩
          have H4 : Hid _ := hv rfl
          clear hv
          go_wp2_with fail
          refine (hex_any (f (i + 5)) _).mono ?_
          rintro e w1 ⟨⟨v, rfl, hv⟩, rfl⟩
          cases v
          · go_wp2_with fail
            go_ret2
            exact ⟨⟨_, false, rfl, fun h => by cases h⟩, rfl⟩
          have H5 : Hid _ := hv rfl
          clear hv
          go_wp2_with fail
          go_round
          case rel => exact ⟨i + 6, by omega, by go_num, HN.out.hex H2.out H3.out H4.out H5.out⟩
          case measure => simp [intOf]; omega
        · have h5' : (n : Int) ≤ (i : Int) + 5 := by omega
          go_wp2_with fail
          go_ret2
          exact ⟨⟨_, false, rfl, fun h => by cases h⟩, rfl⟩
      · go_wp2_with fail
        go_ret2
        exact ⟨⟨_, false, rfl, fun h => by cases h⟩, rfl⟩
    · go_wp2_with fail
      go_ret2
      exact ⟨⟨_, false, rfl, fun h => by cases h⟩, rfl⟩

end Go.Proofs.Qxb6602398a
