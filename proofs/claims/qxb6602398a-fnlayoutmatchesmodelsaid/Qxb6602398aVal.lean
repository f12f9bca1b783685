/-
  THE WALK OF jiValue, out of jiContainer's contract.
-/
import Derived.Test.Qxb6602398aScalar
namespace Go.Proofs.Qxb6602398a
open Go.RowKit
set_option linter.unusedVariables false

/-- Three results: a slice, a number, a Bool; where that is true, Q holds. -/
def RetV (Q : Value → Int → World → Prop) (e : Ending) (w' : World) : Prop := ∃ v x ok, e = .returned (.tuple #[v, .int .i64 x, .bool ok]) ∧ (ok = true → Q v x w')

/-- A value of JSON from pos on has been parsed: the output is what layOut has written so far. -/
def ValOk (n : Nat) (f : Nat → Int) (B pos : Nat) (level : Int) (v : Value) (x : Int) (w' : World) : Prop :=
  ∃ (p : Nat) (M : List Int), x = p ∧ pos < p ∧ p ≤ n ∧ Own B w' v M ∧ Pl.St n f p M level ∧ ¬ Pl.isOp (f (p - 1))

def ValC (n b o c0 : Nat) (f : Nat → Int) (B : Nat) (w0 : World) (k : Nat) : Prop :=
  ∀ (pos : Nat) (level : Int) (v : Value) (M : List Int) (w : World), n - pos ≤ k → pos ≤ n → Own B w v M → Below B w0 w → M.length ≤ 70000000 → -2000000 ≤ level → level ≤ 2000000 →
    (pos < n → ¬ Pl.isCl (f pos) → Pl.St n f pos M level) →
    Calls Try.prog 15 #[.slice (some ⟨b, o, none⟩) n c0, .int .i64 pos, .int .i64 level, v] w fun e w' => RetV (ValOk n f B pos level) e w' ∧ Below B w0 w'

def ConC (n b o c0 : Nat) (f : Nat → Int) (B : Nat) (w0 : World) (k : Nat) : Prop :=
  ∀ (pos : Nat) (depth : Int) (v : Value) (M : List Int) (w : World), n - pos ≤ k → pos < n → Pl.isOp (f pos) → Own B w v M → Below B w0 w → Pl.St n f pos M (depth - 1) →
    Calls Try.prog 17 #[.slice (some ⟨b, o, none⟩) n c0, .int .i64 pos, .int .i64 depth, v] w fun e w' => RetV (ValOk n f B pos (depth - 1)) e w' ∧ Below B w0 w'

/-- A string or a scalar that ends at x. -/
def SegOk (n : Nat) (f : Nat → Int) (pos : Nat) (M : List Int) (level x : Int) : Prop :=
  ∃ J : Nat, x = pos + J ∧ 0 < J ∧ pos + J ≤ n ∧ Pl.St n f (pos + J) (M ++ Pl.seg f pos J) level ∧ ¬ Pl.isOp (f (pos + J - 1))

theorem seg_string {n : Nat} {f : Nat → Int} {pos : Nat} {M : List Int} {level x : Int} (h : Pl.St n f pos M level) (hq : f pos = 34) (hs : StrOk n f pos x) : SegOk n f pos M level x := by
  obtain ⟨j, hx, hn, hj, hin, hend, h34⟩ := hs
  refine ⟨1 + j, by omega, by omega, by omega, ?_, ?_⟩
  · have := h.string hq j hin hend
    rw [show pos + (1 + j) = pos + 1 + j by omega]
    exact this
  · rw [show pos + (1 + j) - 1 = pos + j by omega]
    unfold Pl.isOp; omega

theorem seg_scalar {n : Nat} {f : Nat → Int} {pos : Nat} {M : List Int} {level x : Int} (h : ¬ Pl.isCl (f pos) → Pl.St n f pos M level) (hs : ScalOk n f pos x) : SegOk n f pos M level x := by
  obtain ⟨j, hx, hj, hn, hp⟩ := hs
  have h0 := hp pos (Nat.le_refl _) (by omega)
  refine ⟨j, hx, hj, hn, (h h0.2.1).scalar j hp, ?_⟩
  exact (hp (pos + j - 1) (by omega) (by omega)).1

theorem ss_opens {n : Nat} {f : Nat → Int} {pos : Nat} {M : List Int} {level : Int} (h : Pl.St n f pos M level) (hq : f pos = 34) : Pl.ss f (pos + 1) = (true, false) := by
  rw [Pl.ss, h.str, hq]; rfl

set_option maxRecDepth 10000 in
set_option maxHeartbeats 3200000 in
theorem val_of (n b o c0 : Nat) (f : Nat → Int) (B : Nat) (w0 : World) (k : Nat) (hn : n ≤ 1048576) (hb : b < B) (hB : B ≤ w0.heap.size) (hf : ∀ j, j < n → w0.cell? ⟨b, o + j, none⟩ = some (.int .u8 (f j)))
    (hcon : ConC n b o c0 f B w0 k) : ValC n b o c0 f B w0 k := by
  intro pos level v M w hk hpn hown hbel hlen hl1 hl2 hst
  have HF : Hid (∀ j, j < n → w.cell? ⟨b, o + j, none⟩ = some (.int .u8 (f j))) := fun j hj => by rw [hbel.cell (by exact hb)]; exact hf j hj
  have HF0 : Hid (∀ j, j < n → w0.cell? ⟨b, o + j, none⟩ = some (.int .u8 (f j))) := hf
  have HST : Hid (pos < n → ¬ Pl.isCl (f pos) → Pl.St n f pos M level) := hst
  clear hf hst
  by_cases hp : pos < n
  rotate_left
  · have g1 : (n : Int) ≤ (pos : Int) := by omega
    go_enter Try.func15, Try.ntmps15
    go_wp2_with fail
    go_ret3
    exact ⟨⟨_, _, false, rfl, fun h => by cases h⟩, hbel⟩
  obtain ⟨c, hc⟩ : ∃ c, c = f pos := ⟨_, rfl⟩
  have cc : w.cell? ⟨b, o + pos, none⟩ = some (.int .u8 c) := by rw [HF.out pos hp, hc]
  have HC : Hid (c = f pos) := hc
  clear hc
  by_cases hop : c = 123 ∨ c = 91
  · have hs : Pl.St n f pos M level := HST.out hp (by rw [← HC.out]; unfold Pl.isCl; omega)
    have ho : Pl.isOp (f pos) := by rw [← HC.out]; exact hop
    have hcc := hcon pos (level + 1) v M w hk hp ho hown hbel (by rw [Int.add_sub_cancel]; exact hs)
    rw [Int.add_sub_cancel] at hcc
    have HCC : Hid _ := hcc
    clear hcc hs ho
    rcases hop with rfl | rfl
    all_goals
      go_enter Try.func15, Try.ntmps15
      go_wp2_with fail
      refine Calls.mono HCC.out ?_
      rintro e w1 ⟨⟨v1, x, ok, rfl, hv⟩, hb1⟩
      have HV : Hid _ := hv
      clear hv
      go_wp2_with fail
      go_ret3
      exact ⟨⟨_, _, _, rfl, HV.out⟩, hb1⟩
  have e123 : (c == 123) = false := by rw [beq_eq_false_iff_ne]; omega
  have e91 : (c == 91) = false := by rw [beq_eq_false_iff_ne]; omega
  clear hop
  go_enter Try.func15, Try.ntmps15
  go_upto_if 41 with (fail)
  go_cut [12, 13] (fun s12 s13 wr => ∃ x v, s12 = .int .i64 x ∧ s13 = .bool v ∧ Hid (v = true → SegOk n f pos M level x) ∧ ∃ m, w.drewN m = wr)
  case first => as_aux_lemma =>
    by_cases h34 : c = 34
    · subst h34
      have hs : Pl.St n f pos M level := HST.out hp (by rw [← HC.out]; unfold Pl.isCl; omega)
      have HS2 : Hid _ := hs
      clear hs
      go_wp2_with fail
      refine (string_any n b o c0 pos f _ hn hp HF.out (ss_opens HS2.out HC.out.symm)).mono ?_
      rintro e w1 ⟨⟨x, v1, rfl, hv⟩, rfl⟩
      have HV : Hid _ := hv
      clear hv
      go_wp2_with fail
      go_meet
      case rel => exact ⟨_, _, rfl, rfl, fun h => seg_string HS2.out HC.out.symm (HV.out h), 0, rfl⟩
    · have e34 : (c == 34) = false := by simpa using h34
      clear h34
      go_wp2_with fail
      refine (scalar_any n b o c0 pos f _ hn hp HF.out).mono ?_
      rintro e w1 ⟨⟨x, v1, rfl, hv⟩, m, rfl⟩
      have HV : Hid _ := hv
      clear hv
      go_wp2_with fail
      go_meet
      case rel => exact ⟨_, _, rfl, rfl, fun h => seg_scalar (HST.out hp) (HV.out h), m, rfl⟩
  obtain ⟨x, v1, rfl, rfl, HSEG, m, rfl⟩ := hcut
  cases v1
  · go_wp2_with fail
    go_ret3
    exact ⟨⟨_, _, false, rfl, fun h => by cases h⟩, below_drewN hbel _⟩
  obtain ⟨J, rfl, hJ, hJn, hst, hno⟩ := HSEG.out rfl
  have HS3 : Hid _ := hst
  have HNo : Hid _ := hno
  clear hst hno HSEG cc HC e123 e91
  have hbel' : Below B w0 (w.drewN m) := below_drewN hbel _
  have hown' : Own B (w.drewN m) v M := hown
  clear hown hbel
  go_wp2_with fail
  go_loopw [3, 14] (fun vv iv wr => ∃ k : Nat, k ≤ J ∧ iv = .int .i64 ((pos : Int) + k) ∧ Own B wr vv (M ++ Pl.seg f pos k) ∧ Below B w0 wr) (fun _ iv _ => pos + J - (intOf iv).toNat)
  case atStart => exact ⟨0, Nat.zero_le _, by go_num, by simpa [Pl.seg] using hown', hbel'⟩
  case round =>
    clear hown' hbel'
    obtain ⟨k, hk, rfl, hownk, hbelk⟩ := hrel
    by_cases hlt : k < J
    · have cc : wr.cell? ⟨b, o + (pos + k), none⟩ = some (.int .u8 (f (pos + k))) := by
        rw [hbelk.cell (by exact hb)]; exact HF0.out (pos + k) (by omega)
      have b1 : (pos : Int) + k < n := by omega
      have b2 : (pos : Int) + k < pos + J := by omega
      have hsl := Pl.seg_length f pos k
      have HSL : Hid _ := hsl
      go_wp2_with (at_builtin; refine wpList_app (by rfl) _ _ (by rfl) B w0 _ (M ++ Pl.seg f pos k) [f (pos + k)] (by rfl) hownk hbelk hB (by rfl) (by simp [hsl]; omega) ?_; intro v1 w1 hown1 hbel1)
      go_roundw
      case rel => exact ⟨k + 1, by omega, by go_num, by simpa [Pl.seg] using hown1, hbel1⟩
      case measure => simp [intOf]; omega
    · obtain rfl : k = J := by omega
      have b2 : ¬ (pos : Int) + k < pos + k := by omega
      go_wp2_with fail
      go_ret3
      exact ⟨⟨_, _, true, rfl, fun _ => ⟨pos + k, _, by omega, by omega, by omega, hownk, HS3.out, HNo.out⟩⟩, hbelk⟩

end Go.Proofs.Qxb6602398a
