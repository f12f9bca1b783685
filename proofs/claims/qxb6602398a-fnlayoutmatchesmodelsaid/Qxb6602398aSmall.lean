/-
  THE WALKS OF jiBreak, jiDigit, jiHex, jiHasWord.
-/
import Derived.Test.Qxb6602398aOwn
import Derived.Test.Qxb6602398aModel
namespace Go.Proofs.Qxb6602398a
open Go.RowKit
set_option linter.unusedVariables false

set_option maxHeartbeats 400000 in
theorem break_any (B : Nat) (w0 : World) (v : Value) (xs : List Int) (d : Int) (w : World) (hown : Own B w v xs) (hbel : Below B w0 w) (hB : B ≤ w0.heap.size) (hd : d ≤ 32) (hd' : -9223372036854775808 ≤ d) (hlen : xs.length ≤ 100000000) :
    Calls Try.prog 24 #[v, .int .i64 d] w fun e w' => ∃ v', e = .returned v' ∧ Own B w' v' (xs ++ Pl.nl d) ∧ Below B w0 w' := by
  go_enter Try.func24, Try.ntmps24
  go_wp2_with (at_builtin; refine wpList_app (by rfl) _ _ (by rfl) B w0 v xs [10] (by rfl) hown hbel hB (by rfl) (by simp; omega) ?_)
  intro v1 w1 hown1 hbel1
  go_wp2_with fail
  go_loopw [0, 5] (fun u i wr => ∃ (k : Nat), k ≤ d.toNat ∧ i = .int .i64 k ∧ Own B wr u (xs ++ (10 :: List.replicate (2 * k) 32)) ∧ Below B w0 wr)
    (fun _ i _ => d.toNat - (intOf i).toNat)
  case atStart => exact ⟨0, Nat.zero_le _, rfl, by simpa using hown1, hbel1⟩
  case round =>
    obtain ⟨k, hk, rfl, hownk, hbelk⟩ := hrel
    by_cases hlt : (k : Int) < d
    · go_wp2_with (at_builtin; refine wpList_app (by rfl) _ _ (by rfl) B w0 _ _ [32, 32] (by rfl) hownk hbelk hB (by rfl) (by simp; omega) ?_)
      intro v2 w2 hown2 hbel2
      rw [rep_two] at hown2
      go_wp2_with fail
      go_roundw
      case rel => exact ⟨k + 1, by omega, by go_num, hown2, hbel2⟩
      case measure => simp [intOf]; omega
    · go_wp2_with fail
      go_ret
      obtain rfl : k = d.toNat := by omega
      exact ⟨_, rfl, hownk, hbelk⟩

/-- Is it a decimal digit? -/
def dig (c : Int) : Bool := decide (48 ≤ c ∧ c ≤ 57)
theorem dig_true {c : Int} (h : dig c = true) : 48 ≤ c ∧ c ≤ 57 := by simpa [dig] using h

set_option maxHeartbeats 400000 in
theorem digit_any (c : Int) (w : World) : Calls Try.prog 27 #[.int .u8 c] w fun e w' => e = .returned (.bool (dig c)) ∧ w = w' := by
  by_cases h1 : 48 ≤ c
  · by_cases h2 : c ≤ 57
    · have d1 : decide (48 ≤ c) = true := by simpa using h1
      have d2 : decide (c ≤ 57) = true := by simpa using h2
      have HD : Hid (dig c = true) := by show dig c = true; unfold dig; simp [h1, h2]
      go_enter Try.func27, Try.ntmps27
      go_wp2_with fail
      go_ret
      exact ⟨by rw [HD.out]; rfl, rfl⟩
    · have d1 : decide (48 ≤ c) = true := by simpa using h1
      have d2 : decide (c ≤ 57) = false := by simp; omega
      have HD : Hid (dig c = false) := by show dig c = false; unfold dig; simp; omega
      go_enter Try.func27, Try.ntmps27
      go_wp2_with fail
      go_ret
      exact ⟨by rw [HD.out]; rfl, rfl⟩
  · have d1 : decide (48 ≤ c) = false := by simp; omega
    have HD : Hid (dig c = false) := by show dig c = false; unfold dig; simp; omega
    go_enter Try.func27, Try.ntmps27
    go_wp2_with fail
    go_ret
    exact ⟨by rw [HD.out]; rfl, rfl⟩

set_option maxHeartbeats 400000 in
/-- A hex digit is no quote and no backslash. -/
theorem hex_any (c : Int) (w : World) : Calls Try.prog 25 #[.int .u8 c] w fun e w' => RetB (¬ c = 34 ∧ ¬ c = 92) e ∧ w = w' := by
  by_cases h34 : c = 34
  · subst h34
    go_enter Try.func25, Try.ntmps25
    go_wp2
    go_ret
    exact ⟨⟨false, rfl, fun h => by cases h⟩, rfl⟩
  by_cases h92 : c = 92
  · subst h92
    go_enter Try.func25, Try.ntmps25
    go_wp2
    go_ret
    exact ⟨⟨false, rfl, fun h => by cases h⟩, rfl⟩
  have H : Hid (¬ c = 34 ∧ ¬ c = 92) := ⟨h34, h92⟩
  clear h34 h92
  go_enter Try.func25, Try.ntmps25
  go_wp2_with fail
  refine (digit_any c _).mono ?_
  rintro e w1 ⟨rfl, rfl⟩
  generalize dig c = v
  by_cases a1 : 97 ≤ c
  · have e1 : decide (97 ≤ c) = true := by simpa using a1
    have e3 : decide (65 ≤ c) = true := by simp; omega
    cases v
    all_goals
      go_wp2_with fail
      all_goals
        go_ret
        exact ⟨⟨_, rfl, fun _ => H.out⟩, rfl⟩
  · have e1 : decide (97 ≤ c) = false := by simp; omega
    by_cases a2 : 65 ≤ c
    · have e3 : decide (65 ≤ c) = true := by simpa using a2
      cases v
      all_goals
        go_wp2_with fail
        all_goals
          go_ret
          exact ⟨⟨_, rfl, fun _ => H.out⟩, rfl⟩
    · have e3 : decide (65 ≤ c) = false := by simp; omega
      cases v
      all_goals
        go_wp2_with fail
        all_goals
          go_ret
          exact ⟨⟨_, rfl, fun _ => H.out⟩, rfl⟩

theorem word_step {f : Nat → Int} {s : ByteArray} {pos k : Nat} (hlt : k < s.size) (H : ∀ j (h : j < s.size), j < k → f (pos + j) = ((s[j]'h).toNat : Int)) (e : f (pos + k) = ((s[k]'hlt).toNat : Int)) :
    ∀ j (h : j < s.size), j < k + 1 → f (pos + j) = ((s[j]'h).toNat : Int) := by
  intro j h hj
  by_cases h2 : j < k
  · exact H j h h2
  · obtain rfl : j = k := by omega
    exact e

set_option maxHeartbeats 400000 in
theorem word_any (n b o c0 pos : Nat) (f : Nat → Int) (s : ByteArray) (w : World) (hn : n ≤ 1048576) (hp : pos ≤ n) (hs : s.size ≤ 10) (hf : ∀ j, j < n → w.cell? ⟨b, o + j, none⟩ = some (.int .u8 (f j))) :
    Calls Try.prog 26 #[.slice (some ⟨b, o, none⟩) n c0, .int .i64 pos, .string s] w fun e w' => RetB (pos + s.size ≤ n ∧ ∀ j (h : j < s.size), f (pos + j) = ((s[j]'h).toNat : Int)) e ∧ ∃ m, w' = w.drewN m := by
  have HF : Hid _ := hf
  clear hf
  by_cases hlen : (n : Int) - pos < s.size
  · go_enter Try.func26, Try.ntmps26
    go_wp2_with fail
    go_ret
    exact ⟨⟨false, rfl, fun h => by cases h⟩, 0, rfl⟩
  go_enter Try.func26, Try.ntmps26
  go_wp2_with fail
  go_loopw [7] (fun i wr => ∃ (k m : Nat), k ≤ s.size ∧ i = .int .i64 k ∧ wr = w.drewN m ∧ Hid (∀ j (h : j < s.size), j < k → f (pos + j) = ((s[j]'h).toNat : Int))) (fun i _ => s.size - (intOf i).toNat)
  case atStart => exact ⟨0, 0, Nat.zero_le _, rfl, rfl, fun j h hk => by omega⟩
  case round =>
    obtain ⟨k, m, hk, rfl, rfl, H⟩ := hrel
    by_cases hlt : k < s.size
    · have c1 : w.cell? ⟨b, o + (pos + k), none⟩ = some (.int .u8 (f (pos + k))) := HF.out (pos + k) (by omega)
      have b1 : (pos : Int) + k < n := by omega
      go_wp2_with fail
      go_quiet (fail)
      by_cases heq : f (pos + k) = ((s[k]'hlt).toNat : Int)
      · have hb : (f (pos + k) != ((s[k]'hlt).toNat : Int)) = false := by simpa using heq
        have HE : Hid _ := heq
        clear heq
        go_wp2_with fail
        go_roundw
        case rel => exact ⟨k + 1, _, by omega, by go_num, rfl, word_step hlt H.out HE.out⟩
        case measure => simp [intOf]; omega
      · have hb : (f (pos + k) != ((s[k]'hlt).toNat : Int)) = true := by simpa using heq
        clear heq
        go_wp2_with fail
        go_ret
        exact ⟨⟨false, rfl, fun h => by cases h⟩, _, World.drewN_drewN ..⟩
    · go_wp2_with fail
      go_ret
      exact ⟨⟨true, rfl, fun _ => ⟨by omega, fun j h => H.out j h (by omega)⟩⟩, _, rfl⟩

end Go.Proofs.Qxb6602398a
