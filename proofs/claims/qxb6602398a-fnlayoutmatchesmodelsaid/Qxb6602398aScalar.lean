/-
  THE WALK OF jiScalar.
-/
import Derived.Test.Qxb6602398aString
import Derived.Deep.DeepCutAuto
namespace Go.Proofs.Qxb6602398a
open Go.RowKit
set_option linter.unusedVariables false

/-- From pos up to i all bytes are plain. -/
def Pf (f : Nat → Int) (pos i : Nat) : Prop := ∀ k, pos ≤ k → k < i → Pl.plain (f k)

theorem plain_num {c : Int} (h : (43 ≤ c ∧ c ≤ 57 ∧ ¬ c = 44) ∨ c = 69 ∨ c = 101) : Pl.plain c := by
  unfold Pl.plain Pl.isOp Pl.isCl; omega
theorem plain_low {c : Int} (h : 97 ≤ c ∧ c ≤ 122) : Pl.plain c := by
  unfold Pl.plain Pl.isOp Pl.isCl; omega

theorem Pf.next {f : Nat → Int} {pos i : Nat} (h : Pf f pos i) (hc : Pl.plain (f i)) : Pf f pos (i + 1) := by
  intro k a b
  by_cases h2 : k < i
  · exact h k a h2
  · obtain rfl : k = i := by omega
    exact hc

/-- What jiScalar tells where it says yes. -/
def ScalOk (n : Nat) (f : Nat → Int) (pos : Nat) (en : Int) : Prop := ∃ j : Nat, en = pos + j ∧ 0 < j ∧ pos + j ≤ n ∧ ∀ k, pos ≤ k → k < pos + j → Pl.plain (f k)

theorem ScalOk.mk {n : Nat} {f : Nat → Int} {pos i : Nat} (h : Pf f pos i) (hi : pos < i) (hn : i ≤ n) : ScalOk n f pos (i : Int) :=
  ⟨i - pos, by omega, by omega, by omega, fun k a b => h k a (by omega)⟩

theorem word_ok {n : Nat} {f : Nat → Int} {pos : Nat} {s : ByteArray} (h : pos + s.size ≤ n ∧ ∀ j (h : j < s.size), f (pos + j) = ((s[j]'h).toNat : Int)) (h0 : 0 < s.size)
    (hb : ∀ j (h : j < s.size), 97 ≤ ((s[j]'h).toNat : Int) ∧ ((s[j]'h).toNat : Int) ≤ 122) : ScalOk n f pos ((pos : Int) + s.size) := by
  refine ⟨s.size, rfl, h0, h.1, fun k a b => ?_⟩
  obtain ⟨j, rfl⟩ := Nat.exists_eq_add_of_le a
  rw [h.2 j (by omega)]
  exact plain_low (hb j (by omega))

set_option maxRecDepth 10000 in
set_option maxHeartbeats 6400000 in
theorem scalar_any (n b o c0 pos : Nat) (f : Nat → Int) (w : World) (hn : n ≤ 1048576) (hp : pos < n) (hf : ∀ j, j < n → w.cell? ⟨b, o + j, none⟩ = some (.int .u8 (f j))) :
    Calls Try.prog 19 #[.slice (some ⟨b, o, none⟩) n c0, .int .i64 pos] w fun e w' => RetP (ScalOk n f pos) e ∧ ∃ m, w' = w.drewN m := by
  have HF : Hid (∀ j, j < n → w.cell? ⟨b, o + j, none⟩ = some (.int .u8 (f j))) := hf
  clear hf
  go_enter Try.func19, Try.ntmps19
  go_wp2_with fail
  refine (word_any n b o c0 pos f _ _ hn (by omega) (by decide) HF.out).mono ?_
  rintro e w1 ⟨⟨v, rfl, hv⟩, m1, rfl⟩
  cases v
  rotate_left
  · have HO : Hid _ := word_ok (hv rfl) (by decide) (by decide)
    clear hv
    go_wp2_with fail
    go_ret2
    exact ⟨⟨_, true, rfl, fun _ => HO.out⟩, _, rfl⟩
  clear hv
  go_wp2_with fail
  refine (word_any n b o c0 pos f _ (w.drewN m1) hn (by omega) (by decide) HF.out).mono ?_
  rintro e w1 ⟨⟨v, rfl, hv⟩, m2, rfl⟩
  cases v
  rotate_left
  · have HO : Hid _ := word_ok (hv rfl) (by decide) (by decide)
    clear hv
    go_wp2_with fail
    go_ret2
    exact ⟨⟨_, true, rfl, fun _ => HO.out⟩, _, rfl⟩
  clear hv
  go_wp2_with fail
  refine (word_any n b o c0 pos f _ (w.drewN (m1 + m2)) hn (by omega) (by decide) HF.out).mono ?_
  rintro e w1 ⟨⟨v, rfl, hv⟩, m3, rfl⟩
  cases v
  rotate_left
  · have HO : Hid _ := word_ok (hv rfl) (by decide) (by decide)
    clear hv
    go_wp2_with fail
    go_ret2
    exact ⟨⟨_, true, rfl, fun _ => HO.out⟩, _, rfl⟩
  clear hv
  have HW : Hid (∀ j, j < n → (w.drewN (m1 + m2 + m3)).cell? ⟨b, o + j, none⟩ = some (.int .u8 (f j))) := HF.out
  have HDr : Hid (∃ m, w.drewN (m1 + m2 + m3) = w.drewN m) := ⟨_, rfl⟩
  go_upto_region 6 with (fail)
  generalize w.drewN (m1 + m2 + m3) = W at *
  go_upto_region 6 with (fail)
  go_cut [35] (fun s0 wr => ∃ v, s0 = .bool v ∧ Hid (v = true → pos < n ∧ (f pos = 45)) ∧ W = wr)
  case first => as_aux_lemma =>
    by_cases hin : pos < n
    · obtain ⟨c, hc⟩ : ∃ c, c = f pos := ⟨_, rfl⟩
      have cc : W.cell? ⟨b, o + pos, none⟩ = some (.int .u8 c) := by rw [HW.out pos hin, hc]
      have HC : Hid (c = f pos) := hc
      clear hc
      by_cases h45 : c = 45
      · subst h45
        go_wp2_with fail
        go_meet
        case rel => exact ⟨true, rfl, (fun _ => ⟨hin, HC.out.symm⟩), rfl⟩
      have e45 : (c == 45) = false := by simpa using h45
      clear h45
      go_wp2_with fail
      go_meet
      case rel => exact ⟨false, rfl, (fun h => by cases h), rfl⟩
    · exact absurd hp hin
  obtain ⟨v1, rfl, H1, rfl⟩ := hcut
  go_upto_if 35 with (fail)
  go_cut [6] (fun s6 wr => ∃ i : Nat, s6 = .int .i64 i ∧ pos ≤ i ∧ i ≤ n ∧ Hid (Pf f pos i) ∧ W = wr)
  case first => as_aux_lemma =>
    cases v1
    · go_wp2_with fail
      go_meet
      case rel => exact ⟨pos, rfl, Nat.le_refl _, by omega, (fun k a b => by omega), rfl⟩
    · obtain ⟨h1, h2⟩ := H1.out rfl
      have HH : Hid _ := h2
      clear h2
      go_wp2_with fail
      go_meet
      case rel => exact ⟨pos + 1, by go_num, by omega, by omega, Pf.next (fun k a b => by omega) (plain_num (by rw [HH.out]; omega)), rfl⟩
  obtain ⟨i, rfl, hpi, hin, HP, rfl⟩ := hcut
  clear H1
  by_cases hlt : i < n
  rotate_left
  · have g1 : (n : Int) ≤ (i : Int) := by omega
    go_wp2_with fail
    go_ret2
    exact ⟨⟨_, false, rfl, fun h => by cases h⟩, HDr.out⟩
  obtain ⟨c, hc⟩ : ∃ c, c = f i := ⟨_, rfl⟩
  have cc : W.cell? ⟨b, o + i, none⟩ = some (.int .u8 c) := by rw [HW.out i hlt, hc]
  have HC : Hid (c = f i) := hc
  clear hc
  go_upto_if 47 with (fail)
  go_cut [6] (fun s6 wr => ∃ i : Nat, s6 = .int .i64 i ∧ pos < i ∧ i ≤ n ∧ Hid (Pf f pos i) ∧ W = wr)
  case first => as_aux_lemma =>
    by_cases h48 : c = 48
    · subst h48
      go_wp2_with fail
      go_meet
      case rel => exact ⟨i + 1, by go_num, by omega, by omega, HP.out.next (plain_num (by rw [← HC.out]; omega)), rfl⟩
    have e48 : (c == 48) = false := by simpa using h48
    clear h48
    go_wp2_with fail
    refine (digit_any c _).mono ?_
    rintro e w1 ⟨rfl, rfl⟩
    by_cases hd : dig c = true
    rotate_left
    · have hd' : dig c = false := by simpa using hd
      rw [hd']
      clear hd hd'
      go_wp2_with fail
      go_ret2
      exact ⟨⟨_, false, rfl, fun h => by cases h⟩, HDr.out⟩
    have HD : Hid (dig c = true) := hd
    rw [hd]
    clear hd
    go_wp2_with fail
    go_loop [6] (fun s6 => ∃ k : Nat, s6 = .int .i64 k ∧ i ≤ k ∧ k ≤ n ∧ Hid (Pf f pos k) ∧ Hid (k = i → dig (f k) = true)) (fun s6 => n - (intOf s6).toNat)
    case atStart => exact ⟨i, rfl, Nat.le_refl _, by omega, HP.out, fun _ => by rw [← HC.out]; exact HD.out⟩
    case round =>
      clear HP HC HD cc
      obtain ⟨k, rfl, hik, hkn, HP, HK⟩ := hrel
      by_cases hk : k < n
      · have cc := HW.out k hk
        go_wp2_with fail
        refine (digit_any (f k) _).mono ?_
        rintro e w1 ⟨rfl, rfl⟩
        by_cases hd : dig (f k) = true
        · have HD : Hid (dig (f k) = true) := hd
          rw [hd]
          clear hd
          go_wp2_with fail
          go_round
          case rel => exact ⟨k + 1, by go_num, by omega, by omega, HP.out.next (plain_num (by have := dig_true HD.out; omega)), fun h => by omega⟩
          case measure => simp [intOf]; omega
        · have hd' : dig (f k) = false := by simpa using hd
          have hki : ¬ k = i := fun h => hd (HK.out h)
          rw [hd']
          clear hd hd'
          go_wp2_with fail
          go_meet
          case rel => exact ⟨k, rfl, by omega, by omega, HP.out, rfl⟩
      · have g1 : decide ((k : Int) < (n : Int)) = false := by simp; omega
        have g2 : decide (k < n) = false := by simp; omega
        go_wp2_with fail
        go_meet
        case rel => exact ⟨k, rfl, by omega, by omega, HP.out, rfl⟩
  clear HP HC cc hlt hin hpi
  obtain ⟨i2, rfl, hpi, hin, HP, rfl⟩ := hcut
  go_upto_region 16 with (fail)
  go_cut [79] (fun s0 wr => ∃ v, s0 = .bool v ∧ Hid (v = true → i2 < n ∧ (f i2 = 46)) ∧ W = wr)
  case first => as_aux_lemma =>
    by_cases hin : i2 < n
    · obtain ⟨c, hc⟩ : ∃ c, c = f i2 := ⟨_, rfl⟩
      have cc : W.cell? ⟨b, o + i2, none⟩ = some (.int .u8 c) := by rw [HW.out i2 hin, hc]
      have HC : Hid (c = f i2) := hc
      clear hc
      by_cases h46 : c = 46
      · subst h46
        go_wp2_with fail
        go_meet
        case rel => exact ⟨true, rfl, (fun _ => ⟨hin, HC.out.symm⟩), rfl⟩
      have e46 : (c == 46) = false := by simpa using h46
      clear h46
      go_wp2_with fail
      go_meet
      case rel => exact ⟨false, rfl, (fun h => by cases h), rfl⟩
    · skip
      have g1 : decide ((i2 : Int) < (n : Int)) = false := by simp; omega
      have g2 : decide (i2 < n) = false := by simp; omega
      go_wp2_with fail
      go_meet
      case rel => exact ⟨false, rfl, (fun h => by cases h), rfl⟩
  obtain ⟨v2, rfl, H2, rfl⟩ := hcut
  go_upto_if 79 with (fail)
  go_cut [6] (fun s6 wr => ∃ i : Nat, s6 = .int .i64 i ∧ pos < i ∧ i ≤ n ∧ Hid (Pf f pos i) ∧ W = wr)
  case first => as_aux_lemma =>
    cases v2
    · go_wp2_with fail
      go_meet
      case rel => exact ⟨i2, rfl, by omega, by omega, HP.out, rfl⟩
    obtain ⟨h1, h2⟩ := H2.out rfl
    have HH : Hid _ := h2
    clear h2
    go_wp2_with fail
    go_loop [6] (fun s6 => ∃ k : Nat, s6 = .int .i64 k ∧ i2 + 1 ≤ k ∧ k ≤ n ∧ Hid (Pf f pos k)) (fun s6 => n - (intOf s6).toNat)
    case atStart => exact ⟨i2 + 1, by first | rfl | go_num, Nat.le_refl _, by omega, (HP.out.next (plain_num (by rw [HH.out]; omega)))⟩
    case round =>
      clear HP
      obtain ⟨k, rfl, hik, hkn, HP⟩ := hrel
      by_cases hk : k < n
      · have cc := HW.out k hk
        go_wp2_with fail
        refine (digit_any (f k) _).mono ?_
        rintro e w1 ⟨rfl, rfl⟩
        by_cases hd : dig (f k) = true
        · have HD : Hid (dig (f k) = true) := hd
          rw [hd]
          clear hd
          go_wp2_with fail
          go_round
          case rel => exact ⟨k + 1, by go_num, by omega, by omega, HP.out.next (plain_num (by have := dig_true HD.out; omega))⟩
          case measure => simp [intOf]; omega
        · have hd' : dig (f k) = false := by simpa using hd
          rw [hd']
          clear hd hd'
          by_cases hks : k = i2 + 1
          · have hb : ((k : Int) == ((i2 : Int) + 1)) = true := by rw [beq_iff_eq]; omega
            clear hks
            go_wp2_with fail
            go_ret2
            exact ⟨⟨_, false, rfl, fun h => by cases h⟩, HDr.out⟩
          · have hb : ((k : Int) == ((i2 : Int) + 1)) = false := by rw [beq_eq_false_iff_ne]; omega
            go_wp2_with fail
            go_meet
            case rel => exact ⟨k, rfl, by omega, by omega, HP.out, rfl⟩
      · have g1 : decide ((k : Int) < (n : Int)) = false := by simp; omega
        have g2 : decide (k < n) = false := by simp; omega
        by_cases hks : k = i2 + 1
        · have hb : ((k : Int) == ((i2 : Int) + 1)) = true := by rw [beq_iff_eq]; omega
          clear hks
          go_wp2_with fail
          go_ret2
          exact ⟨⟨_, false, rfl, fun h => by cases h⟩, HDr.out⟩
        · have hb : ((k : Int) == ((i2 : Int) + 1)) = false := by rw [beq_eq_false_iff_ne]; omega
          go_wp2_with fail
          go_meet
          case rel => exact ⟨k, rfl, by omega, by omega, HP.out, rfl⟩
  clear HP H2 hin hpi
  obtain ⟨i3, rfl, hpi, hin, HP, rfl⟩ := hcut
  go_upto_region 23 with (fail)
  go_cut [117] (fun s0 wr => ∃ v, s0 = .bool v ∧ Hid (v = true → i3 < n ∧ (f i3 = 101 ∨ f i3 = 69)) ∧ W = wr)
  case first => as_aux_lemma =>
    by_cases hin : i3 < n
    · obtain ⟨c, hc⟩ : ∃ c, c = f i3 := ⟨_, rfl⟩
      have cc : W.cell? ⟨b, o + i3, none⟩ = some (.int .u8 c) := by rw [HW.out i3 hin, hc]
      have HC : Hid (c = f i3) := hc
      clear hc
      by_cases h101 : c = 101
      · subst h101
        go_wp2_with fail
        go_meet
        case rel => exact ⟨true, rfl, (fun _ => ⟨hin, .inl HC.out.symm⟩), rfl⟩
      by_cases h69 : c = 69
      · subst h69
        go_wp2_with fail
        go_meet
        case rel => exact ⟨true, rfl, (fun _ => ⟨hin, .inr HC.out.symm⟩), rfl⟩
      have e101 : (c == 101) = false := by simpa using h101
      clear h101
      have e69 : (c == 69) = false := by simpa using h69
      clear h69
      go_wp2_with fail
      go_meet
      case rel => exact ⟨false, rfl, (fun h => by cases h), rfl⟩
    · skip
      have g1 : decide ((i3 : Int) < (n : Int)) = false := by simp; omega
      have g2 : decide (i3 < n) = false := by simp; omega
      go_wp2_with fail
      go_meet
      case rel => exact ⟨false, rfl, (fun h => by cases h), rfl⟩
  obtain ⟨v3, rfl, H3, rfl⟩ := hcut
  go_upto_if 117 with (fail)
  go_cut [6] (fun s6 wr => ∃ i : Nat, s6 = .int .i64 i ∧ pos < i ∧ i ≤ n ∧ Hid (Pf f pos i) ∧ W = wr)
  case first => as_aux_lemma =>
    cases v3
    · go_wp2_with fail
      go_meet
      case rel => exact ⟨i3, rfl, by omega, by omega, HP.out, rfl⟩
    obtain ⟨h1, h2⟩ := H3.out rfl
    have HP4 : Hid (Pf f pos (i3 + 1)) := HP.out.next (plain_num (by omega))
    clear h2 H3 HP
    go_upto_region 25 with (fail)
    obtain ⟨i4, hi4⟩ : ∃ i4 : Nat, i4 = i3 + 1 := ⟨_, rfl⟩
    rw [show (i3 : Int) + 1 = (i4 : Int) by omega]
    rw [← hi4] at HP4
    have hi5 : pos < i4 := by omega
    have hi6 : i4 ≤ n := by omega
    clear hi4
    go_upto_region 25 with (fail)
    go_cut [137] (fun s0 wr => ∃ v, s0 = .bool v ∧ Hid (v = true → i4 < n ∧ (f i4 = 43 ∨ f i4 = 45)) ∧ W = wr)
    case first => as_aux_lemma =>
      by_cases hin : i4 < n
      · obtain ⟨c, hc⟩ : ∃ c, c = f i4 := ⟨_, rfl⟩
        have cc : W.cell? ⟨b, o + i4, none⟩ = some (.int .u8 c) := by rw [HW.out i4 hin, hc]
        have HC : Hid (c = f i4) := hc
        clear hc
        by_cases h43 : c = 43
        · subst h43
          go_wp2_with fail
          go_meet
          case rel => exact ⟨true, rfl, (fun _ => ⟨hin, .inl HC.out.symm⟩), rfl⟩
        by_cases h45 : c = 45
        · subst h45
          go_wp2_with fail
          go_meet
          case rel => exact ⟨true, rfl, (fun _ => ⟨hin, .inr HC.out.symm⟩), rfl⟩
        have e43 : (c == 43) = false := by simpa using h43
        clear h43
        have e45 : (c == 45) = false := by simpa using h45
        clear h45
        go_wp2_with fail
        go_meet
        case rel => exact ⟨false, rfl, (fun h => by cases h), rfl⟩
      · skip
        have g1 : decide ((i4 : Int) < (n : Int)) = false := by simp; omega
        have g2 : decide (i4 < n) = false := by simp; omega
        go_wp2_with fail
        go_meet
        case rel => exact ⟨false, rfl, (fun h => by cases h), rfl⟩
    obtain ⟨v4, rfl, H4, rfl⟩ := hcut
    go_upto_if 137 with (fail)
    go_cut [6] (fun s6 wr => ∃ i : Nat, s6 = .int .i64 i ∧ pos < i ∧ i ≤ n ∧ Hid (Pf f pos i) ∧ W = wr)
    case first => as_aux_lemma =>
      cases v4
      · go_wp2_with fail
        go_meet
        case rel => exact ⟨i4, rfl, by omega, by omega, HP4.out, rfl⟩
      · obtain ⟨h1, h2⟩ := H4.out rfl
        have HP5 : Hid (Pf f pos (i4 + 1)) := HP4.out.next (plain_num (by omega))
        clear h2
        go_wp2_with fail
        go_meet
        case rel => exact ⟨i4 + 1, by go_num, by omega, by omega, HP5.out, rfl⟩
    clear HP4 H4 hi5 hi6 h1 hpi hin
    obtain ⟨i5, rfl, hpi, hin, HP, rfl⟩ := hcut
    go_wp2_with fail
    go_loop [6] (fun s6 => ∃ k : Nat, s6 = .int .i64 k ∧ i5 ≤ k ∧ k ≤ n ∧ Hid (Pf f pos k)) (fun s6 => n - (intOf s6).toNat)
    case atStart => exact ⟨i5, by first | rfl | go_num, Nat.le_refl _, by omega, HP.out⟩
    case round =>
      clear HP
      obtain ⟨k, rfl, hik, hkn, HP⟩ := hrel
      by_cases hk : k < n
      · have cc := HW.out k hk
        go_wp2_with fail
        refine (digit_any (f k) _).mono ?_
        rintro e w1 ⟨rfl, rfl⟩
        by_cases hd : dig (f k) = true
        · have HD : Hid (dig (f k) = true) := hd
          rw [hd]
          clear hd
          go_wp2_with fail
          go_round
          case rel => exact ⟨k + 1, by go_num, by omega, by omega, HP.out.next (plain_num (by have := dig_true HD.out; omega))⟩
          case measure => simp [intOf]; omega
        · have hd' : dig (f k) = false := by simpa using hd
          rw [hd']
          clear hd hd'
          by_cases hks : k = i5
          · have hb : ((k : Int) == (i5 : Int)) = true := by rw [beq_iff_eq]; omega
            clear hks
            go_wp2_with fail
            go_ret2
            exact ⟨⟨_, false, rfl, fun h => by cases h⟩, HDr.out⟩
          · have hb : ((k : Int) == (i5 : Int)) = false := by rw [beq_eq_false_iff_ne]; omega
            go_wp2_with fail
            go_meet
            case rel => exact ⟨k, rfl, by omega, by omega, HP.out, rfl⟩
      · have g1 : decide ((k : Int) < (n : Int)) = false := by simp; omega
        have g2 : decide (k < n) = false := by simp; omega
        by_cases hks : k = i5
        · have hb : ((k : Int) == (i5 : Int)) = true := by rw [beq_iff_eq]; omega
          clear hks
          go_wp2_with fail
          go_ret2
          exact ⟨⟨_, false, rfl, fun h => by cases h⟩, HDr.out⟩
        · have hb : ((k : Int) == (i5 : Int)) = false := by rw [beq_eq_false_iff_ne]; omega
          go_wp2_with fail
          go_meet
          case rel => exact ⟨k, rfl, by omega, by omega, HP.out, rfl⟩
  clear HP H3 hin hpi
  obtain ⟨i6, rfl, hpi, hin, HP, rfl⟩ := hcut
  go_wp2_with fail
  go_ret2
  exact ⟨⟨_, true, rfl, fun _ => ScalOk.mk HP.out (by omega) (by omega)⟩, HDr.out⟩

end Go.Proofs.Qxb6602398a
