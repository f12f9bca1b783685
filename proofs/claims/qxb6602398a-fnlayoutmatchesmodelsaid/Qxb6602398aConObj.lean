/-
  THE WALK OF jiContainer: objects.
-/
import Derived.Test.Qxb6602398aCon
namespace Go.Proofs.Qxb6602398a
open Go.RowKit
set_option linter.unusedVariables false

set_option maxRecDepth 10000 in
set_option maxHeartbeats 6400000 in
theorem con_obj (n b o c0 : Nat) (f : Nat → Int) (B : Nat) (w0 : World) (k : Nat) (hn : n ≤ 1048576) (hb : b < B) (hB : B ≤ w0.heap.size) (hf : ∀ j, j < n → w0.cell? ⟨b, o + j, none⟩ = some (.int .u8 (f j)))
    (hval : ValC n b o c0 f B w0 k) (pos : Nat) (depth : Int) (v : Value) (M : List Int) (w : World) (hk : n - pos ≤ k + 1) (hp : pos < n) (hop : f pos = 123) (hown : Own B w v M) (hbel : Below B w0 w) (hst : Pl.St n f pos M (depth - 1)) :
    Calls Try.prog 17 #[.slice (some ⟨b, o, none⟩) n c0, .int .i64 pos, .int .i64 depth, v] w fun e w' => RetV (ValOk n f B pos (depth - 1)) e w' ∧ Below B w0 w' := by
  have HF : Hid (∀ j, j < n → w0.cell? ⟨b, o + j, none⟩ = some (.int .u8 (f j))) := hf
  have HV : Hid (ValC n b o c0 f B w0 k) := hval
  have HOP : Hid (f pos = 123) := hop
  have HST : Hid (Pl.St n f pos M (depth - 1)) := hst
  have hbd := hst.bounds
  obtain ⟨hbd1, hbd2, hbd3⟩ := hbd
  have cc : w.cell? ⟨b, o + pos, none⟩ = some (.int .u8 123) := by rw [hbel.cell (by exact hb), HF.out pos hp, hop]
  clear hf hval hop hst
  by_cases hp1 : pos + 1 < n
  rotate_left
  · have g1 : decide ((pos : Int) + 1 < (n : Int)) = false := by simp; omega
    have g3 : ¬ (pos : Int) + 1 < (n : Int) := by omega
    go_enter Try.func17, Try.ntmps17
    go_wp2_with (at_builtin; refine wpList_app (by rfl) _ _ (by rfl) B w0 _ (M) [123] (by rfl) hown hbel hB (by rfl) (by simp; omega) ?_; intro v1 w1 hown1 hbel1)
    refine wp_loop_rounds 1 ?_
    rw [rounds_succ]
    go_wp2_with fail
    go_ret3
    exact ⟨⟨_, _, false, rfl, fun h => by cases h⟩, hbel1⟩
  obtain ⟨nx, hnx⟩ : ∃ nx, nx = f (pos + 1) := ⟨_, rfl⟩
  have HX : Hid (nx = f (pos + 1)) := hnx
  clear hnx
  by_cases hcl : nx = 125
  · subst hcl
    have hfin : Pl.St n f (pos + 2) (M ++ [f pos] ++ [f (pos + 1)]) (depth - 1) := at_empty HST.out (by rw [HOP.out]; decide) hp1 (by rw [← HX.out]; decide)
    rw [HOP.out, ← HX.out] at hfin
    have HFin : Hid _ := hfin
    clear hfin
    go_enter Try.func17, Try.ntmps17
    go_wp2_with (first | (at_builtin; refine wpList_app (by rfl) _ _ (by rfl) B w0 _ (M) [123] (by rfl) hown hbel hB (by rfl) (by simp; omega) ?_; intro v1 w1 hown1 hbel1; have cn : w1.cell? ⟨b, o + (pos + 1), none⟩ = some (.int .u8 125) := (by rw [hbel1.cell (by exact hb), HF.out (pos + 1) hp1, HX.out])) | (at_builtin; refine wpList_app (by rfl) _ _ (by rfl) B w0 _ (M ++ [123]) [125] (by rfl) hown1 hbel1 hB (by rfl) (by simp; omega) ?_; intro v2 w2 hown2 hbel2))
    go_ret3
    exact ⟨⟨_, _, true, rfl, fun _ => ⟨pos + 2, _, by omega, by omega, by omega, hown2, by simpa using HFin.out, by rw [show pos + 2 - 1 = pos + 1 by omega, ← HX.out]; decide⟩⟩, hbel2⟩
  have ecl : (nx == 125) = false := by simpa using hcl
  clear hcl
  go_enter Try.func17, Try.ntmps17
  go_wp2_with (at_builtin; refine wpList_app (by rfl) _ _ (by rfl) B w0 _ (M) [123] (by rfl) hown hbel hB (by rfl) (by simp; omega) ?_; intro v1 w1 hown1 hbel1; have cn : w1.cell? ⟨b, o + (pos + 1), none⟩ = some (.int .u8 nx) := (by rw [hbel1.cell (by exact hb), HF.out (pos + 1) hp1, HX.out]))
  obtain ⟨laid, hlaid⟩ : ∃ laid, laid = decide (depth ≤ 32) := ⟨_, rfl⟩
  rw [← hlaid]
  have HLA : Hid (laid = decide (depth ≤ 32)) := hlaid
  clear hlaid
  go_loopw [1, 3] (fun pv vv wr => ∃ (p : Nat) (L : List Int), pv = .int .i64 p ∧ pos < p ∧ p ≤ n ∧ L.length ≤ 66 * p ∧ Own B wr vv L ∧ Below B w0 wr ∧ Hid (p < n → ¬ Pl.isCl (f p) → Pl.St n f p (L ++ nlIf depth) depth))
    (fun pv _ _ => n - (intOf pv).toNat)
  case atStart => exact ⟨pos + 1, M ++ [123], by go_num, by omega, by omega, by simp; omega, hown1, hbel1, fun h1 h2 => by have := at_open HST.out (by rw [HOP.out]; decide) h1 h2; rw [HOP.out] at this; exact this⟩
  case round =>
    clear hown1 hbel1 cn
    obtain ⟨p, L, rfl, hpp, hpn, hLl, hownp, hbelp, HStp⟩ := hrel
    by_cases hlt : p < n
    rotate_left
    · have g1 : ¬ (p : Int) < (n : Int) := by omega
      go_wp2_with fail
      go_ret3
      exact ⟨⟨_, _, false, rfl, fun h => by cases h⟩, hbelp⟩
    have hnl := nlIf_length depth
    go_upto_if 55 with (fail)
    go_cut [3] (fun s3 wr => Own B wr s3 (L ++ nlIf depth) ∧ Below B w0 wr)
    case first => as_aux_lemma =>
      cases laid
      · have hd : nlIf depth = [] := by unfold nlIf; rw [if_neg (by have := HLA.out; simp at this; omega)]
        have HD : Hid _ := hd
        clear hd
        go_wp2_with fail
        go_meet
        case rel => exact ⟨by rw [HD.out, List.append_nil]; exact hownp, hbelp⟩
      · have hdl : depth ≤ 32 := by have := HLA.out; simp at this; omega
        have hd : nlIf depth = Pl.nl depth := by unfold nlIf; rw [if_pos hdl]
        have HD : Hid _ := hd
        clear hd
        go_wp2_with fail
        refine (break_any B w0 _ L depth _ hownp hbelp hB hdl (by omega) (by omega)).mono ?_
        rintro e w2 ⟨v2, rfl, hown2, hbel2⟩
        go_wp2_with fail
        go_meet
        case rel => exact ⟨by rw [HD.out]; exact hown2, hbel2⟩
    clear hownp hbelp
    obtain ⟨hownp, hbelp⟩ := hcut
    have hNl : (L ++ nlIf depth).length ≤ 70000000 := by rw [List.length_append]; omega
    generalize L ++ nlIf depth = N at *
    clear hnl hLl
    go_upto_if 60 with (fail)
    go_cut [1, 3] (fun s1 s3 wr => ∃ (q : Nat) (N : List Int), s1 = .int .i64 q ∧ p ≤ q ∧ q ≤ n ∧ N.length ≤ 70000000 ∧ Own B wr s3 N ∧ Below B w0 wr ∧ Hid (q < n → ¬ Pl.isCl (f q) → Pl.St n f q N depth))
    case first => as_aux_lemma =>
      obtain ⟨d, hd⟩ : ∃ d, d = f p := ⟨_, rfl⟩
      have cd : wc.cell? ⟨b, o + p, none⟩ = some (.int .u8 d) := by rw [hbelp.cell (by exact hb), HF.out p hlt, hd]
      have HD : Hid (d = f p) := hd
      clear hd
      by_cases h34 : d = 34
      rotate_left
      · have e34 : (d != 34) = true := by simpa using h34
        clear h34
        go_wp2_with fail
        go_ret3
        exact ⟨⟨_, _, false, rfl, fun h => by cases h⟩, hbelp⟩
      subst h34
      have hst := HStp.out hlt (by rw [← HD.out]; decide)
      have HS1 : Hid _ := hst
      clear hst
      have HFc : Hid (∀ j, j < n → wc.cell? ⟨b, o + j, none⟩ = some (.int .u8 (f j))) := fun j hj => by rw [hbelp.cell (by exact hb)]; exact HF.out j hj
      go_wp2_with fail
      refine (string_any n b o c0 p f _ hn hlt HFc.out (ss_opens HS1.out HD.out.symm)).mono ?_
      rintro e w3 ⟨⟨x, ok, rfl, hok⟩, rfl⟩
      cases ok
      · clear hok
        go_wp2_with fail
        go_ret3
        exact ⟨⟨_, _, false, rfl, fun h => by cases h⟩, hbelp⟩
      obtain ⟨J, rfl, hJ, hJn, hst2, hno⟩ := seg_string HS1.out HD.out.symm (hok rfl)
      have HS2 : Hid _ := hst2
      have hb2 := hst2.bounds
      obtain ⟨hb21, _, _⟩ := hb2
      clear hok hst2 hno cd HFc
      go_wp2_with fail
      go_loopw [3, 16] (fun vv iv wr => ∃ k : Nat, k ≤ J ∧ iv = .int .i64 ((p : Int) + k) ∧ Own B wr vv (N ++ Pl.seg f p k) ∧ Below B w0 wr) (fun _ iv _ => p + J - (intOf iv).toNat)
      case atStart => exact ⟨0, Nat.zero_le _, by go_num, by simpa [Pl.seg] using hownp, hbelp⟩
      case round =>
        clear hownp hbelp
        obtain ⟨k, hk, rfl, hownk, hbelk⟩ := hrel
        by_cases hkJ : k < J
        · have cc : wr.cell? ⟨b, o + (p + k), none⟩ = some (.int .u8 (f (p + k))) := by
            rw [hbelk.cell (by exact hb)]; exact HF.out (p + k) (by omega)
          have b1 : (p : Int) + k < n := by omega
          have b2 : (p : Int) + k < p + J := by omega
          have hsl := Pl.seg_length f p k
          go_wp2_with (at_builtin; refine wpList_app (by rfl) _ _ (by rfl) B w0 _ (N ++ Pl.seg f p k) [f (p + k)] (by rfl) hownk hbelk hB (by rfl) (by simp [hsl]; omega) ?_; intro v4 w4 hown4 hbel4)
          go_roundw
          case rel => exact ⟨k + 1, by omega, by go_num, by simpa [Pl.seg] using hown4, hbel4⟩
          case measure => simp [intOf]; omega
        · obtain rfl : k = J := by omega
          have b2 : ¬ (p : Int) + k < p + k := by omega
          generalize N ++ Pl.seg f p k = N3 at *
          by_cases hqn : p + k < n
          rotate_left
          · have g1 : decide ((n : Int) ≤ (p : Int) + (k : Int)) = true := by simp; omega
            go_wp2_with fail
            go_ret3
            exact ⟨⟨_, _, false, rfl, fun h => by cases h⟩, hbelk⟩
          have g1 : decide ((n : Int) ≤ (p : Int) + (k : Int)) = false := by simp; omega
          obtain ⟨d2, hd2⟩ : ∃ d2, d2 = f (p + k) := ⟨_, rfl⟩
          have cd : wr.cell? ⟨b, o + (p + k), none⟩ = some (.int .u8 d2) := by rw [hbelk.cell (by exact hb), HF.out (p + k) hqn, hd2]
          have HD2 : Hid (d2 = f (p + k)) := hd2
          clear hd2
          have b3 : (p : Int) + k < n := by omega
          by_cases h58 : d2 = 58
          rotate_left
          · have e58 : (d2 != 58) = true := by simpa using h58
            clear h58
            go_wp2_with fail
            go_ret3
            exact ⟨⟨_, _, false, rfl, fun h => by cases h⟩, hbelk⟩
          subst h58
          have hfin := at_colon HS2.out HD2.out.symm
          cases laid
          · have hdl : ¬ depth ≤ 32 := by have := HLA.out; simp at this; omega
            rw [if_neg hdl, List.append_nil] at hfin
            have HFin : Hid _ := hfin
            clear hfin
            go_wp2_with (at_builtin; refine wpList_app (by rfl) _ _ (by rfl) B w0 _ (N3) [58] (by rfl) hownk hbelk hB (by rfl) (by simp; omega) ?_; intro v4 w4 hown4 hbel4)
            go_meet
            case rel => exact ⟨p + k + 1, N3 ++ [58], by go_num, by omega, by omega, by simp; omega, hown4, hbel4, fun _ _ => HFin.out⟩
          · have hdl : depth ≤ 32 := by have := HLA.out; simp at this; omega
            rw [if_pos hdl] at hfin
            have HFin : Hid _ := hfin
            clear hfin
            go_wp2_with (first | (at_builtin; refine wpList_app (by rfl) _ _ (by rfl) B w0 _ (N3) [58] (by rfl) hownk hbelk hB (by rfl) (by simp; omega) ?_; intro v4 w4 hown4 hbel4) | (at_builtin; refine wpList_app (by rfl) _ _ (by rfl) B w0 _ (N3 ++ [58]) [32] (by rfl) hown4 hbel4 hB (by rfl) (by simp; omega) ?_; intro v5 w5 hown5 hbel5))
            go_meet
            case rel => exact ⟨p + k + 1, N3 ++ [58] ++ [32], by go_num, by omega, by omega, by simp; omega, by simpa using hown5, hbel5, fun _ _ => HFin.out⟩
    clear hownp hbelp hNl HStp
    obtain ⟨q, N2, rfl, hpq, hqn, hNl, hownq, hbelq, HStq⟩ := hcut
    go_wp2_with fail
    refine Calls.mono (HV.out q depth _ N2 _ (by omega) hqn hownq hbelq hNl (by omega) (by omega) HStq.out) ?_
    rintro e w3 ⟨⟨v3, x, ok, rfl, hok⟩, hbel3⟩
    cases ok
    · clear hok
      go_wp2_with fail
      go_ret3
      exact ⟨⟨_, _, false, rfl, fun h => by cases h⟩, hbel3⟩
    obtain ⟨p2, M2, rfl, hqp, hp2n, hown3, hst3, hno⟩ := hok rfl
    have HS3 : Hid _ := hst3
    have HNo : Hid _ := hno
    have hb3 := hst3.bounds
    obtain ⟨hb31, hb32, hb33⟩ := hb3
    clear hok hst3 hno hownq hbelq HStq hNl
    by_cases hp2 : p2 < n
    rotate_left
    · have g1 : decide ((n : Int) ≤ (p2 : Int)) = true := by simp; omega
      have g2 : decide (n ≤ p2) = true := by simp; omega
      go_wp2_with fail
      go_ret3
      exact ⟨⟨_, _, false, rfl, fun h => by cases h⟩, hbel3⟩
    have g1 : decide ((n : Int) ≤ (p2 : Int)) = false := by simp; omega
    have g2 : decide (n ≤ p2) = false := by simp; omega
    obtain ⟨d, hd⟩ : ∃ d, d = f p2 := ⟨_, rfl⟩
    have cd : w3.cell? ⟨b, o + p2, none⟩ = some (.int .u8 d) := by rw [hbel3.cell (by exact hb), HF.out p2 hp2, hd]
    have HD : Hid (d = f p2) := hd
    clear hd
    by_cases h44 : d = 44
    · subst h44
      go_wp2_with (at_builtin; refine wpList_app (by rfl) _ _ (by rfl) B w0 _ (M2) [44] (by rfl) hown3 hbel3 hB (by rfl) (by simp; omega) ?_; intro v4 w4 hown4 hbel4)
      go_roundw
      case rel => exact ⟨p2 + 1, M2 ++ [44], by go_num, by omega, by omega, by simp; omega, hown4, hbel4, fun _ _ => at_comma HS3.out HD.out.symm⟩
      case measure => simp [intOf]; omega
    have e44 : (d == 44) = false := by simpa using h44
    clear h44
    by_cases hdc : d = 125
    rotate_left
    · have ec : (d != 125) = true := by simpa using hdc
      clear hdc
      go_wp2_with fail
      go_ret3
      exact ⟨⟨_, _, false, rfl, fun h => by cases h⟩, hbel3⟩
    subst hdc
    have hfin := at_close HS3.out (by rw [← HD.out]; decide) (by omega) HNo.out
    rw [← HD.out] at hfin
    have HFin : Hid _ := hfin
    clear hfin e44
    cases laid
    · have hdl : ¬ depth ≤ 32 := by have := HLA.out; simp at this; omega
      have hf2 := HFin.out
      rw [if_neg hdl, List.append_nil] at hf2
      have HF2 : Hid _ := hf2
      clear hf2
      go_wp2_with (at_builtin; refine wpList_app (by rfl) _ _ (by rfl) B w0 _ (M2) [125] (by rfl) hown3 hbel3 hB (by rfl) (by simp; omega) ?_; intro v4 w4 hown4 hbel4)
      go_ret3
      exact ⟨⟨_, _, true, rfl, fun _ => ⟨p2 + 1, _, by omega, by omega, by omega, hown4, HF2.out, by rw [Nat.add_sub_cancel, ← HD.out]; decide⟩⟩, hbel4⟩
    · have hdl : depth ≤ 32 := by have := HLA.out; simp at this; omega
      have hf2 := HFin.out
      rw [if_pos hdl] at hf2
      have HF2 : Hid _ := hf2
      have hnl2 : (Pl.nl (depth - 1)).length ≤ 65 := by rw [Pl.nl_length]; omega
      clear hf2
      go_wp2_with (first | (go_at_call 24; refine (break_any B w0 _ M2 (depth - 1) _ hown3 hbel3 hB (by omega) (by omega) (by omega)).mono ?_; rintro e4 w4 ⟨v4, rfl, hown4, hbel4⟩) | (at_builtin; refine wpList_app (by rfl) _ _ (by rfl) B w0 _ (M2 ++ Pl.nl (depth - 1)) [125] (by rfl) hown4 hbel4 hB (by rfl) (by simp; omega) ?_; intro v5 w5 hown5 hbel5))
      go_ret3
      exact ⟨⟨_, _, true, rfl, fun _ => ⟨p2 + 1, _, by omega, by omega, by omega, hown5, by simpa using HF2.out, by rw [Nat.add_sub_cancel, ← HD.out]; decide⟩⟩, hbel5⟩

end Go.Proofs.Qxb6602398a
