/-
  THE WALK OF layOut.
-/
import Derived.Test.Qxb6602398aOwn
namespace Go.Proofs.Qxb6602398a
open Go.RowKit
set_option linter.unusedVariables false

/-- Which byte is it, to layOut? -/
theorem lcls (c : Int) : c = 123 ∨ c = 91 ∨ c = 125 ∨ c = 93 ∨ c = 44 ∨ c = 58 ∨ c = 34 ∨
    ((c == 123) = false ∧ (c == 91) = false ∧ (c == 125) = false ∧ (c == 93) = false ∧ (c == 44) = false ∧ (c == 58) = false ∧ (c == 34) = false) := by
  by_cases h1 : c = 123
  · exact .inl h1
  by_cases h2 : c = 91
  · exact .inr (.inl h2)
  by_cases h3 : c = 125
  · exact .inr (.inr (.inl h3))
  by_cases h4 : c = 93
  · exact .inr (.inr (.inr (.inl h4)))
  by_cases h5 : c = 44
  · exact .inr (.inr (.inr (.inr (.inl h5))))
  by_cases h6 : c = 58
  · exact .inr (.inr (.inr (.inr (.inr (.inl h6)))))
  by_cases h7 : c = 34
  · exact .inr (.inr (.inr (.inr (.inr (.inr (.inl h7))))))
  refine .inr (.inr (.inr (.inr (.inr (.inr (.inr ?_))))))
  simp [h1, h2, h3, h4, h5, h6, h7]

/-- One round of the plain function, in the case at hand. -/
theorem lo_next {f : Nat → Int} {k : Nat} {L : List Int} {d : Int} {p q : Bool} {o : List Int} {d' : Int} (hl : Pl.lo f k = (L, d)) (hs : Pl.ss f k = (p, q)) (he : Pl.emit f k d p = (o, d')) :
    Pl.lo f (k + 1) = (L ++ o, d') := by
  rw [Pl.lo, hl, hs]
  dsimp only
  rw [he]

theorem emit_in {f : Nat → Int} {k : Nat} {d c : Int} (hc : c = f k) : Pl.emit f k d true = ([c], d) := by
  rw [hc]; simp [Pl.emit]

theorem emit_open {f : Nat → Int} {k : Nat} {d c : Int} (hc : c = f k) (h : c = 123 ∨ c = 91) : Pl.emit f k d false = (c :: (if d + 1 ≤ 32 ∧ ¬ (f (k + 1) = 125 ∨ f (k + 1) = 93) then Pl.nl (d + 1) else []), d + 1) := by
  subst hc; unfold Pl.emit; rw [if_neg (by decide), if_pos h]

theorem emit_close {f : Nat → Int} {k : Nat} {d c : Int} (hc : c = f k) (h : c = 125 ∨ c = 93) : Pl.emit f k d false = ((if d ≤ 32 ∧ ¬ (f (k - 1) = 123 ∨ f (k - 1) = 91) then Pl.nl (d - 1) else []) ++ [c], d - 1) := by
  subst hc; unfold Pl.emit; rw [if_neg (by decide), if_neg (by omega), if_pos h]

theorem emit_comma {f : Nat → Int} {k : Nat} {d : Int} (hc : 44 = f k) : Pl.emit f k d false = (44 :: (if d ≤ 32 then Pl.nl d else []), d) := by
  unfold Pl.emit; rw [← hc]; simp

theorem emit_colon {f : Nat → Int} {k : Nat} {d : Int} (hc : 58 = f k) : Pl.emit f k d false = (58 :: (if d ≤ 32 then [32] else []), d) := by
  unfold Pl.emit; rw [← hc]; simp

theorem emit_plain {f : Nat → Int} {k : Nat} {d c : Int} (hc : c = f k) (h1 : ¬ c = 123) (h2 : ¬ c = 91) (h3 : ¬ c = 125) (h4 : ¬ c = 93) (h5 : ¬ c = 44) (h6 : ¬ c = 58) : Pl.emit f k d false = ([c], d) := by
  subst hc; unfold Pl.emit; simp [h1, h2, h3, h4, h5, h6]

theorem beqf {c d : Int} (h : ¬ c = d) : (c == d) = false := by simpa using h

set_option maxRecDepth 10000 in
set_option maxHeartbeats 3200000 in
theorem lay_some (n b o c0 : Nat) (f : Nat → Int) (w : World) (hn : n ≤ 1048576) (hb : b < w.heap.size) (hf : ∀ j, j < n → w.cell? ⟨b, o + j, none⟩ = some (.int .u8 (f j))) (fw : Bool) (hfit : Pl.Fit n f fw) :
    Calls Try.prog 16 #[.slice (some ⟨b, o, none⟩) n c0] w fun e w' => ∃ v, e = .returned v ∧ Own w.heap.size w' v (Pl.lo f n).1 ∧ Below w.heap.size w w' := by
  have HF : Hid (∀ j, j < n → w.cell? ⟨b, o + j, none⟩ = some (.int .u8 (f j))) := hf
  have HFit : Hid (Pl.Fit n f fw) := hfit
  clear hf hfit
  obtain ⟨i0, hi, hz0, hz1, hz2⟩ := info_parts Try.info5
  go_enter Try.func16, Try.ntmps16
  go_wp2_with (at_make; refine wpList_make_own _ rfl _ _ 22 rfl w.heap.size 5 i0 (.int .u8 0) 1 Try.underlying22 hi hz0 hz1 _ _ _ (n + n / 2) rfl rfl (by omega) (by rw [hz2]; omega) (by unfold maxLen; omega) (Nat.le_refl _) ?_)
  intro w1 hown1 hgrow1
  have hbel1 : Below w.heap.size w w1 := (Below.refl _ _).grown hgrow1 (Nat.le_refl _) (fun k h => by cases h)
  clear hgrow1 hi hz0 hz1 hz2
  go_wp2_with fail
  go_loopw [3, 4, 5, 6, 18] (fun vv dv pv qv i wr => ∃ (k : Nat) (p q : Bool) (d : Int) (L : List Int), k ≤ n ∧ i = .int .i64 k ∧ pv = .bool p ∧ qv = .bool q ∧ dv = .int .i64 d ∧ -(k : Int) ≤ d ∧ d ≤ k ∧ L.length ≤ 66 * k ∧
      Hid (Pl.ss f k = (p, q)) ∧ Hid (Pl.lo f k = (L, d)) ∧ Own w.heap.size wr vv L ∧ Below w.heap.size w wr)
    (fun _ _ _ _ i _ => n - (intOf i).toNat)
  case atStart => exact ⟨0, false, false, 0, [], Nat.zero_le _, rfl, rfl, rfl, rfl, by omega, by omega, by simp, rfl, rfl, hown1, hbel1⟩
  case round =>
    clear hown1 hbel1
    obtain ⟨k, p, q, d, L, hk, rfl, rfl, rfl, rfl, hd1, hd2, hL, HS, HL, hown, hbel⟩ := hrel
    by_cases hlt : k < n
    · obtain ⟨c, hc⟩ : ∃ c, c = f k := ⟨_, rfl⟩
      have cc : wr.cell? ⟨b, o + k, none⟩ = some (.int .u8 c) := by rw [hbel.cell (by exact hb), HF.out k hlt, hc]
      have hnx := Pl.ss_next HS.out hc
      have HC : Hid (c = f k) := hc
      have HN : Hid (Pl.ss f (k + 1) = Pl.ssStep (p, q) c) := hnx
      clear hc hnx
      have hbn := Pl.lo_bounds f (k + 1)
      have HB : Hid _ := hbn
      clear hbn
      cases p
      · rcases lcls c with rfl | rfl | rfl | rfl | rfl | rfl | rfl | ⟨e1, e2, e3, e4, e5, e6, e7⟩
        · have hk1 : k + 1 < n := ((HFit.out k hlt) (by rw [HS.out])).2.2 (by rw [← HC.out]; decide)
          obtain ⟨nx, hnx⟩ : ∃ nx, nx = f (k + 1) := ⟨_, rfl⟩
          have HX : Hid (nx = f (k + 1)) := hnx
          clear hnx
          have he := emit_open (d := d) HC.out (by decide)
          rw [← HX.out] at he
          have HE : Hid _ := he
          clear he
          by_cases hd : d + 1 ≤ 32
          · by_cases hx : nx = 125 ∨ nx = 93
            · have hE := HE.out
              rw [if_neg (fun h => h.2 hx)] at hE
              have HE2 : Hid _ := hE
              clear hE HE
              rcases hx with rfl | rfl
              · go_wp2_with (first | (at_builtin; refine wpList_app (by rfl) _ _ (by rfl) w.heap.size w _ L [123] (by rfl) hown hbel (Nat.le_refl _) (by rfl) (by simp; omega) ?_; intro v1 w1 hown1 hbel1; have cn : w1.cell? ⟨b, o + (k + 1), none⟩ = some (.int .u8 125) := (by rw [hbel1.cell (by exact hb), HF.out (k + 1) hk1, HX.out])) | go_in)
                have hlo := lo_next HL.out HS.out HE2.out
                have hbd := HB.out
                rw [hlo] at hbd
                have HLO : Hid _ := hlo
                clear hlo
                go_roundw
                case rel => exact ⟨k + 1, false, q, d + 1, _, by omega, by go_num, rfl, rfl, rfl, by have := hbd.2.2.1; omega, by have := hbd.2.2.2; omega, by exact hbd.2.1, HN.out.trans rfl, HLO.out, hown1, hbel1⟩
                case measure => simp [intOf]; omega
              · go_wp2_with (first | (at_builtin; refine wpList_app (by rfl) _ _ (by rfl) w.heap.size w _ L [123] (by rfl) hown hbel (Nat.le_refl _) (by rfl) (by simp; omega) ?_; intro v1 w1 hown1 hbel1; have cn : w1.cell? ⟨b, o + (k + 1), none⟩ = some (.int .u8 93) := (by rw [hbel1.cell (by exact hb), HF.out (k + 1) hk1, HX.out])) | go_in)
                have hlo := lo_next HL.out HS.out HE2.out
                have hbd := HB.out
                rw [hlo] at hbd
                have HLO : Hid _ := hlo
                clear hlo
                go_roundw
                case rel => exact ⟨k + 1, false, q, d + 1, _, by omega, by go_num, rfl, rfl, rfl, by have := hbd.2.2.1; omega, by have := hbd.2.2.2; omega, by exact hbd.2.1, HN.out.trans rfl, HLO.out, hown1, hbel1⟩
                case measure => simp [intOf]; omega
            · have hE := HE.out
              rw [if_pos ⟨hd, hx⟩] at hE
              have HE2 : Hid _ := hE
              clear hE HE
              have x1 : (nx == 125) = false := beqf (fun h => hx (.inl h))
              have x2 : (nx == 93) = false := beqf (fun h => hx (.inr h))
              clear hx
              go_wp2_with (first | (at_builtin; refine wpList_app (by rfl) _ _ (by rfl) w.heap.size w _ L [123] (by rfl) hown hbel (Nat.le_refl _) (by rfl) (by simp; omega) ?_; intro v1 w1 hown1 hbel1; have cn : w1.cell? ⟨b, o + (k + 1), none⟩ = some (.int .u8 nx) := (by rw [hbel1.cell (by exact hb), HF.out (k + 1) hk1, HX.out])) | (go_at_call 22; refine (newLine_any w.heap.size w _ (L ++ [123]) (d + 1) _ hown1 hbel1 (Nat.le_refl _) (by omega) (by omega) (by first | omega | (simp; omega))).mono ?_; rintro e2 w2 ⟨v2, rfl, hown2, hbel2⟩) | go_in)
              have hlo := lo_next HL.out HS.out HE2.out
              have hbd := HB.out
              rw [hlo] at hbd
              have HLO : Hid _ := hlo
              clear hlo
              go_roundw
              case rel => exact ⟨k + 1, false, q, d + 1, _, by omega, by go_num, rfl, rfl, rfl, by have := hbd.2.2.1; omega, by have := hbd.2.2.2; omega, by exact hbd.2.1, HN.out.trans rfl, HLO.out, (by simpa using hown2), hbel2⟩
              case measure => simp [intOf]; omega
          · have hE := HE.out
            rw [if_neg (fun h => hd h.1)] at hE
            have HE2 : Hid _ := hE
            clear hE HE
            have hd' : decide (d + 1 ≤ 32) = false := by simp; omega
            go_wp2_with (first | (at_builtin; refine wpList_app (by rfl) _ _ (by rfl) w.heap.size w _ L [123] (by rfl) hown hbel (Nat.le_refl _) (by rfl) (by simp; omega) ?_; intro v1 w1 hown1 hbel1; have cn : w1.cell? ⟨b, o + (k + 1), none⟩ = some (.int .u8 nx) := (by rw [hbel1.cell (by exact hb), HF.out (k + 1) hk1, HX.out])) | go_in)
            have hlo := lo_next HL.out HS.out HE2.out
            have hbd := HB.out
            rw [hlo] at hbd
            have HLO : Hid _ := hlo
            clear hlo
            go_roundw
            case rel => exact ⟨k + 1, false, q, d + 1, _, by omega, by go_num, rfl, rfl, rfl, by have := hbd.2.2.1; omega, by have := hbd.2.2.2; omega, by exact hbd.2.1, HN.out.trans rfl, HLO.out, hown1, hbel1⟩
            case measure => simp [intOf]; omega
        · have hk1 : k + 1 < n := ((HFit.out k hlt) (by rw [HS.out])).2.2 (by rw [← HC.out]; decide)
          obtain ⟨nx, hnx⟩ : ∃ nx, nx = f (k + 1) := ⟨_, rfl⟩
          have HX : Hid (nx = f (k + 1)) := hnx
          clear hnx
          have he := emit_open (d := d) HC.out (by decide)
          rw [← HX.out] at he
          have HE : Hid _ := he
          clear he
          by_cases hd : d + 1 ≤ 32
          · by_cases hx : nx = 125 ∨ nx = 93
            · have hE := HE.out
              rw [if_neg (fun h => h.2 hx)] at hE
              have HE2 : Hid _ := hE
              clear hE HE
              rcases hx with rfl | rfl
              · go_wp2_with (first | (at_builtin; refine wpList_app (by rfl) _ _ (by rfl) w.heap.size w _ L [91] (by rfl) hown hbel (Nat.le_refl _) (by rfl) (by simp; omega) ?_; intro v1 w1 hown1 hbel1; have cn : w1.cell? ⟨b, o + (k + 1), none⟩ = some (.int .u8 125) := (by rw [hbel1.cell (by exact hb), HF.out (k + 1) hk1, HX.out])) | go_in)
                have hlo := lo_next HL.out HS.out HE2.out
                have hbd := HB.out
                rw [hlo] at hbd
                have HLO : Hid _ := hlo
                clear hlo
                go_roundw
                case rel => exact ⟨k + 1, false, q, d + 1, _, by omega, by go_num, rfl, rfl, rfl, by have := hbd.2.2.1; omega, by have := hbd.2.2.2; omega, by exact hbd.2.1, HN.out.trans rfl, HLO.out, hown1, hbel1⟩
                case measure => simp [intOf]; omega
              · go_wp2_with (first | (at_builtin; refine wpList_app (by rfl) _ _ (by rfl) w.heap.size w _ L [91] (by rfl) hown hbel (Nat.le_refl _) (by rfl) (by simp; omega) ?_; intro v1 w1 hown1 hbel1; have cn : w1.cell? ⟨b, o + (k + 1), none⟩ = some (.int .u8 93) := (by rw [hbel1.cell (by exact hb), HF.out (k + 1) hk1, HX.out])) | go_in)
                have hlo := lo_next HL.out HS.out HE2.out
                have hbd := HB.out
                rw [hlo] at hbd
                have HLO : Hid _ := hlo
                clear hlo
                go_roundw
                case rel => exact ⟨k + 1, false, q, d + 1, _, by omega, by go_num, rfl, rfl, rfl, by have := hbd.2.2.1; omega, by have := hbd.2.2.2; omega, by exact hbd.2.1, HN.out.trans rfl, HLO.out, hown1, hbel1⟩
                case measure => simp [intOf]; omega
            · have hE := HE.out
              rw [if_pos ⟨hd, hx⟩] at hE
              have HE2 : Hid _ := hE
              clear hE HE
              have x1 : (nx == 125) = false := beqf (fun h => hx (.inl h))
              have x2 : (nx == 93) = false := beqf (fun h => hx (.inr h))
              clear hx
              go_wp2_with (first | (at_builtin; refine wpList_app (by rfl) _ _ (by rfl) w.heap.size w _ L [91] (by rfl) hown hbel (Nat.le_refl _) (by rfl) (by simp; omega) ?_; intro v1 w1 hown1 hbel1; have cn : w1.cell? ⟨b, o + (k + 1), none⟩ = some (.int .u8 nx) := (by rw [hbel1.cell (by exact hb), HF.out (k + 1) hk1, HX.out])) | (go_at_call 22; refine (newLine_any w.heap.size w _ (L ++ [91]) (d + 1) _ hown1 hbel1 (Nat.le_refl _) (by omega) (by omega) (by first | omega | (simp; omega))).mono ?_; rintro e2 w2 ⟨v2, rfl, hown2, hbel2⟩) | go_in)
              have hlo := lo_next HL.out HS.out HE2.out
              have hbd := HB.out
              rw [hlo] at hbd
              have HLO : Hid _ := hlo
              clear hlo
              go_roundw
              case rel => exact ⟨k + 1, false, q, d + 1, _, by omega, by go_num, rfl, rfl, rfl, by have := hbd.2.2.1; omega, by have := hbd.2.2.2; omega, by exact hbd.2.1, HN.out.trans rfl, HLO.out, (by simpa using hown2), hbel2⟩
              case measure => simp [intOf]; omega
          · have hE := HE.out
            rw [if_neg (fun h => hd h.1)] at hE
            have HE2 : Hid _ := hE
            clear hE HE
            have hd' : decide (d + 1 ≤ 32) = false := by simp; omega
            go_wp2_with (first | (at_builtin; refine wpList_app (by rfl) _ _ (by rfl) w.heap.size w _ L [91] (by rfl) hown hbel (Nat.le_refl _) (by rfl) (by simp; omega) ?_; intro v1 w1 hown1 hbel1; have cn : w1.cell? ⟨b, o + (k + 1), none⟩ = some (.int .u8 nx) := (by rw [hbel1.cell (by exact hb), HF.out (k + 1) hk1, HX.out])) | go_in)
            have hlo := lo_next HL.out HS.out HE2.out
            have hbd := HB.out
            rw [hlo] at hbd
            have HLO : Hid _ := hlo
            clear hlo
            go_roundw
            case rel => exact ⟨k + 1, false, q, d + 1, _, by omega, by go_num, rfl, rfl, rfl, by have := hbd.2.2.1; omega, by have := hbd.2.2.2; omega, by exact hbd.2.1, HN.out.trans rfl, HLO.out, hown1, hbel1⟩
            case measure => simp [intOf]; omega
        · have hk0 : ¬ k = 0 := ((HFit.out k hlt) (by rw [HS.out])).2.1 (by rw [← HC.out]; decide)
          obtain ⟨nx, hnx⟩ : ∃ nx, nx = f (k - 1) := ⟨_, rfl⟩
          have HX : Hid (nx = f (k - 1)) := hnx
          clear hnx
          have cn : wr.cell? ⟨b, o + (k - 1), none⟩ = some (.int .u8 nx) := by rw [hbel.cell (by exact hb), HF.out (k - 1) (by omega), HX.out]
          have he := emit_close (d := d) HC.out (by decide)
          rw [← HX.out] at he
          have HE : Hid _ := he
          clear he
          by_cases hd : d ≤ 32
          · by_cases hx : nx = 123 ∨ nx = 91
            · have hE := HE.out
              rw [if_neg (fun h => h.2 hx)] at hE
              have HE2 : Hid _ := hE
              clear hE HE
              rcases hx with rfl | rfl
              · go_wp2_with (first | (at_builtin; refine wpList_app (by rfl) _ _ (by rfl) w.heap.size w _ L [125] (by rfl) hown hbel (Nat.le_refl _) (by rfl) (by simp; omega) ?_; intro v1 w1 hown1 hbel1) | go_in)
                have hlo := lo_next HL.out HS.out HE2.out
                have hbd := HB.out
                rw [hlo] at hbd
                have HLO : Hid _ := hlo
                clear hlo
                go_roundw
                case rel => exact ⟨k + 1, false, q, d - 1, _, by omega, by go_num, rfl, rfl, rfl, by have := hbd.2.2.1; omega, by have := hbd.2.2.2; omega, by exact hbd.2.1, HN.out.trans rfl, HLO.out, hown1, hbel1⟩
                case measure => simp [intOf]; omega
              · go_wp2_with (first | (at_builtin; refine wpList_app (by rfl) _ _ (by rfl) w.heap.size w _ L [125] (by rfl) hown hbel (Nat.le_refl _) (by rfl) (by simp; omega) ?_; intro v1 w1 hown1 hbel1) | go_in)
                have hlo := lo_next HL.out HS.out HE2.out
                have hbd := HB.out
                rw [hlo] at hbd
                have HLO : Hid _ := hlo
                clear hlo
                go_roundw
                case rel => exact ⟨k + 1, false, q, d - 1, _, by omega, by go_num, rfl, rfl, rfl, by have := hbd.2.2.1; omega, by have := hbd.2.2.2; omega, by exact hbd.2.1, HN.out.trans rfl, HLO.out, hown1, hbel1⟩
                case measure => simp [intOf]; omega
            · have hE := HE.out
              rw [if_pos ⟨hd, hx⟩] at hE
              have HE2 : Hid _ := hE
              clear hE HE
              have x1 : (nx == 123) = false := beqf (fun h => hx (.inl h))
              have x2 : (nx == 91) = false := beqf (fun h => hx (.inr h))
              clear hx
              have hnl : (Pl.nl (d - 1)).length ≤ 100 := by rw [Pl.nl_length]; omega
              go_wp2_with (first | (go_at_call 22; refine (newLine_any w.heap.size w _ (L) (d - 1) _ hown hbel (Nat.le_refl _) (by omega) (by omega) (by first | omega | (simp; omega))).mono ?_; rintro e2 w2 ⟨v2, rfl, hown2, hbel2⟩) | (at_builtin; refine wpList_app (by rfl) _ _ (by rfl) w.heap.size w _ (L ++ Pl.nl (d - 1)) [125] (by rfl) hown2 hbel2 (Nat.le_refl _) (by rfl) (by simp; omega) ?_; intro v1 w1 hown1 hbel1) | go_in)
              have hlo := lo_next HL.out HS.out HE2.out
              have hbd := HB.out
              rw [hlo] at hbd
              have HLO : Hid _ := hlo
              clear hlo
              go_roundw
              case rel => exact ⟨k + 1, false, q, d - 1, _, by omega, by go_num, rfl, rfl, rfl, by have := hbd.2.2.1; omega, by have := hbd.2.2.2; omega, by exact hbd.2.1, HN.out.trans rfl, HLO.out, (by simpa using hown1), hbel1⟩
              case measure => simp [intOf]; omega
          · have hE := HE.out
            rw [if_neg (fun h => hd h.1)] at hE
            have HE2 : Hid _ := hE
            clear hE HE
            have hd' : decide (d ≤ 32) = false := by simp; omega
            go_wp2_with (first | (at_builtin; refine wpList_app (by rfl) _ _ (by rfl) w.heap.size w _ L [125] (by rfl) hown hbel (Nat.le_refl _) (by rfl) (by simp; omega) ?_; intro v1 w1 hown1 hbel1) | go_in)
            have hlo := lo_next HL.out HS.out HE2.out
            have hbd := HB.out
            rw [hlo] at hbd
            have HLO : Hid _ := hlo
            clear hlo
            go_roundw
            case rel => exact ⟨k + 1, false, q, d - 1, _, by omega, by go_num, rfl, rfl, rfl, by have := hbd.2.2.1; omega, by have := hbd.2.2.2; omega, by exact hbd.2.1, HN.out.trans rfl, HLO.out, hown1, hbel1⟩
            case measure => simp [intOf]; omega
        · have hk0 : ¬ k = 0 := ((HFit.out k hlt) (by rw [HS.out])).2.1 (by rw [← HC.out]; decide)
          obtain ⟨nx, hnx⟩ : ∃ nx, nx = f (k - 1) := ⟨_, rfl⟩
          have HX : Hid (nx = f (k - 1)) := hnx
          clear hnx
          have cn : wr.cell? ⟨b, o + (k - 1), none⟩ = some (.int .u8 nx) := by rw [hbel.cell (by exact hb), HF.out (k - 1) (by omega), HX.out]
          have he := emit_close (d := d) HC.out (by decide)
          rw [← HX.out] at he
          have HE : Hid _ := he
          clear he
          by_cases hd : d ≤ 32
          · by_cases hx : nx = 123 ∨ nx = 91
            · have hE := HE.out
              rw [if_neg (fun h => h.2 hx)] at hE
              have HE2 : Hid _ := hE
              clear hE HE
              rcases hx with rfl | rfl
              · go_wp2_with (first | (at_builtin; refine wpList_app (by rfl) _ _ (by rfl) w.heap.size w _ L [93] (by rfl) hown hbel (Nat.le_refl _) (by rfl) (by simp; omega) ?_; intro v1 w1 hown1 hbel1) | go_in)
                have hlo := lo_next HL.out HS.out HE2.out
                have hbd := HB.out
                rw [hlo] at hbd
                have HLO : Hid _ := hlo
                clear hlo
                go_roundw
                case rel => exact ⟨k + 1, false, q, d - 1, _, by omega, by go_num, rfl, rfl, rfl, by have := hbd.2.2.1; omega, by have := hbd.2.2.2; omega, by exact hbd.2.1, HN.out.trans rfl, HLO.out, hown1, hbel1⟩
                case measure => simp [intOf]; omega
              · go_wp2_with (first | (at_builtin; refine wpList_app (by rfl) _ _ (by rfl) w.heap.size w _ L [93] (by rfl) hown hbel (Nat.le_refl _) (by rfl) (by simp; omega) ?_; intro v1 w1 hown1 hbel1) | go_in)
                have hlo := lo_next HL.out HS.out HE2.out
                have hbd := HB.out
                rw [hlo] at hbd
                have HLO : Hid _ := hlo
                clear hlo
                go_roundw
                case rel => exact ⟨k + 1, false, q, d - 1, _, by omega, by go_num, rfl, rfl, rfl, by have := hbd.2.2.1; omega, by have := hbd.2.2.2; omega, by exact hbd.2.1, HN.out.trans rfl, HLO.out, hown1, hbel1⟩
                case measure => simp [intOf]; omega
            · have hE := HE.out
              rw [if_pos ⟨hd, hx⟩] at hE
              have HE2 : Hid _ := hE
              clear hE HE
              have x1 : (nx == 123) = false := beqf (fun h => hx (.inl h))
              have x2 : (nx == 91) = false := beqf (fun h => hx (.inr h))
              clear hx
              have hnl : (Pl.nl (d - 1)).length ≤ 100 := by rw [Pl.nl_length]; omega
              go_wp2_with (first | (go_at_call 22; refine (newLine_any w.heap.size w _ (L) (d - 1) _ hown hbel (Nat.le_refl _) (by omega) (by omega) (by first | omega | (simp; omega))).mono ?_; rintro e2 w2 ⟨v2, rfl, hown2, hbel2⟩) | (at_builtin; refine wpList_app (by rfl) _ _ (by rfl) w.heap.size w _ (L ++ Pl.nl (d - 1)) [93] (by rfl) hown2 hbel2 (Nat.le_refl _) (by rfl) (by simp; omega) ?_; intro v1 w1 hown1 hbel1) | go_in)
              have hlo := lo_next HL.out HS.out HE2.out
              have hbd := HB.out
              rw [hlo] at hbd
              have HLO : Hid _ := hlo
              clear hlo
              go_roundw
              case rel => exact ⟨k + 1, false, q, d - 1, _, by omega, by go_num, rfl, rfl, rfl, by have := hbd.2.2.1; omega, by have := hbd.2.2.2; omega, by exact hbd.2.1, HN.out.trans rfl, HLO.out, (by simpa using hown1), hbel1⟩
              case measure => simp [intOf]; omega
          · have hE := HE.out
            rw [if_neg (fun h => hd h.1)] at hE
            have HE2 : Hid _ := hE
            clear hE HE
            have hd' : decide (d ≤ 32) = false := by simp; omega
            go_wp2_with (first | (at_builtin; refine wpList_app (by rfl) _ _ (by rfl) w.heap.size w _ L [93] (by rfl) hown hbel (Nat.le_refl _) (by rfl) (by simp; omega) ?_; intro v1 w1 hown1 hbel1) | go_in)
            have hlo := lo_next HL.out HS.out HE2.out
            have hbd := HB.out
            rw [hlo] at hbd
            have HLO : Hid _ := hlo
            clear hlo
            go_roundw
            case rel => exact ⟨k + 1, false, q, d - 1, _, by omega, by go_num, rfl, rfl, rfl, by have := hbd.2.2.1; omega, by have := hbd.2.2.2; omega, by exact hbd.2.1, HN.out.trans rfl, HLO.out, hown1, hbel1⟩
            case measure => simp [intOf]; omega
        · have he := emit_comma (d := d) HC.out
          have HE : Hid _ := he
          clear he
          by_cases hd : d ≤ 32
          · have hE := HE.out
            rw [if_pos hd] at hE
            have HE2 : Hid _ := hE
            clear hE HE
            go_wp2_with (first | (at_builtin; refine wpList_app (by rfl) _ _ (by rfl) w.heap.size w _ L [44] (by rfl) hown hbel (Nat.le_refl _) (by rfl) (by simp; omega) ?_; intro v1 w1 hown1 hbel1) | (go_at_call 22; refine (newLine_any w.heap.size w _ (L ++ [44]) (d) _ hown1 hbel1 (Nat.le_refl _) (by omega) (by omega) (by first | omega | (simp; omega))).mono ?_; rintro e2 w2 ⟨v2, rfl, hown2, hbel2⟩) | go_in)
            have hlo := lo_next HL.out HS.out HE2.out
            have hbd := HB.out
            rw [hlo] at hbd
            have HLO : Hid _ := hlo
            clear hlo
            go_roundw
            case rel => exact ⟨k + 1, false, q, d, _, by omega, by go_num, rfl, rfl, rfl, by have := hbd.2.2.1; omega, by have := hbd.2.2.2; omega, by exact hbd.2.1, HN.out.trans rfl, HLO.out, (by simpa using hown2), hbel2⟩
            case measure => simp [intOf]; omega
          · have hE := HE.out
            rw [if_neg hd] at hE
            have HE2 : Hid _ := hE
            clear hE HE
            have hd' : decide (d ≤ 32) = false := by simp; omega
            go_wp2_with (first | (at_builtin; refine wpList_app (by rfl) _ _ (by rfl) w.heap.size w _ L [44] (by rfl) hown hbel (Nat.le_refl _) (by rfl) (by simp; omega) ?_; intro v1 w1 hown1 hbel1) | go_in)
            have hlo := lo_next HL.out HS.out HE2.out
            have hbd := HB.out
            rw [hlo] at hbd
            have HLO : Hid _ := hlo
            clear hlo
            go_roundw
            case rel => exact ⟨k + 1, false, q, d, _, by omega, by go_num, rfl, rfl, rfl, by have := hbd.2.2.1; omega, by have := hbd.2.2.2; omega, by exact hbd.2.1, HN.out.trans rfl, HLO.out, hown1, hbel1⟩
            case measure => simp [intOf]; omega
        · have he := emit_colon (d := d) HC.out
          have HE : Hid _ := he
          clear he
          by_cases hd : d ≤ 32
          · have hE := HE.out
            rw [if_pos hd] at hE
            have HE2 : Hid _ := hE
            clear hE HE
            go_wp2_with (first | (at_builtin; refine wpList_app (by rfl) _ _ (by rfl) w.heap.size w _ L [58] (by rfl) hown hbel (Nat.le_refl _) (by rfl) (by simp; omega) ?_; intro v1 w1 hown1 hbel1) | (at_builtin; refine wpList_app (by rfl) _ _ (by rfl) w.heap.size w _ (L ++ [58]) [32] (by rfl) hown1 hbel1 (Nat.le_refl _) (by rfl) (by simp; omega) ?_; intro v2 w2 hown2 hbel2) | go_in)
            have hlo := lo_next HL.out HS.out HE2.out
            have hbd := HB.out
            rw [hlo] at hbd
            have HLO : Hid _ := hlo
            clear hlo
            go_roundw
            case rel => exact ⟨k + 1, false, q, d, _, by omega, by go_num, rfl, rfl, rfl, by have := hbd.2.2.1; omega, by have := hbd.2.2.2; omega, by exact hbd.2.1, HN.out.trans rfl, HLO.out, (by simpa using hown2), hbel2⟩
            case measure => simp [intOf]; omega
          · have hE := HE.out
            rw [if_neg hd] at hE
            have HE2 : Hid _ := hE
            clear hE HE
            have hd' : decide (d ≤ 32) = false := by simp; omega
            go_wp2_with (first | (at_builtin; refine wpList_app (by rfl) _ _ (by rfl) w.heap.size w _ L [58] (by rfl) hown hbel (Nat.le_refl _) (by rfl) (by simp; omega) ?_; intro v1 w1 hown1 hbel1) | go_in)
            have hlo := lo_next HL.out HS.out HE2.out
            have hbd := HB.out
            rw [hlo] at hbd
            have HLO : Hid _ := hlo
            clear hlo
            go_roundw
            case rel => exact ⟨k + 1, false, q, d, _, by omega, by go_num, rfl, rfl, rfl, by have := hbd.2.2.1; omega, by have := hbd.2.2.2; omega, by exact hbd.2.1, HN.out.trans rfl, HLO.out, hown1, hbel1⟩
            case measure => simp [intOf]; omega
        · have he := emit_plain (d := d) HC.out (by decide) (by decide) (by decide) (by decide) (by decide) (by decide)
          have HE2 : Hid _ := he
          clear he
          go_wp2_with (first | (at_builtin; refine wpList_app (by rfl) _ _ (by rfl) w.heap.size w _ L [34] (by rfl) hown hbel (Nat.le_refl _) (by rfl) (by simp; omega) ?_; intro v1 w1 hown1 hbel1) | go_in)
          have hlo := lo_next HL.out HS.out HE2.out
          have hbd := HB.out
          rw [hlo] at hbd
          have HLO : Hid _ := hlo
          clear hlo
          go_roundw
          case rel => exact ⟨k + 1, true, q, d, _, by omega, by go_num, rfl, rfl, rfl, by have := hbd.2.2.1; omega, by have := hbd.2.2.2; omega, by exact hbd.2.1, HN.out.trans rfl, HLO.out, hown1, hbel1⟩
          case measure => simp [intOf]; omega
        · have he := emit_plain (d := d) HC.out (by simpa using e1) (by simpa using e2) (by simpa using e3) (by simpa using e4) (by simpa using e5) (by simpa using e6)
          have HE2 : Hid _ := he
          have hn2 : Pl.ss f (k + 1) = (false, q) := HN.out.trans (by have h : ¬ c = 34 := (by simpa using e7); simp [Pl.ssStep, h])
          have HN2 : Hid _ := hn2
          clear he hn2
          go_wp2_with (first | (at_builtin; refine wpList_app (by rfl) _ _ (by rfl) w.heap.size w _ L [c] (by rfl) hown hbel (Nat.le_refl _) (by rfl) (by simp; omega) ?_; intro v1 w1 hown1 hbel1) | go_in)
          have hlo := lo_next HL.out HS.out HE2.out
          have hbd := HB.out
          rw [hlo] at hbd
          have HLO : Hid _ := hlo
          clear hlo
          go_roundw
          case rel => exact ⟨k + 1, false, q, d, _, by omega, by go_num, rfl, rfl, rfl, by have := hbd.2.2.1; omega, by have := hbd.2.2.2; omega, by exact hbd.2.1, HN2.out, HLO.out, hown1, hbel1⟩
          case measure => simp [intOf]; omega
      · cases q
        · by_cases h92 : c = 92
          · subst h92
            go_wp2_with (at_builtin; refine wpList_app (by rfl) _ _ (by rfl) w.heap.size w _ L [92] (by rfl) hown hbel (Nat.le_refl _) (by rfl) (by simp; omega) ?_; intro v1 w1 hown1 hbel1)
            go_wp2_with fail
            have hlo := lo_next HL.out HS.out (emit_in HC.out)
            have hbd := HB.out
            rw [hlo] at hbd
            have HLO : Hid _ := hlo
            clear hlo
            go_roundw
            case rel => exact ⟨k + 1, true, true, d, _, by omega, by go_num, rfl, rfl, rfl, by have := hbd.2.2.1; omega, by have := hbd.2.2.2; omega, by exact hbd.2.1, HN.out.trans rfl, HLO.out, hown1, hbel1⟩
            case measure => simp [intOf]; omega
          · by_cases h34 : c = 34
            · subst h34
              go_wp2_with (at_builtin; refine wpList_app (by rfl) _ _ (by rfl) w.heap.size w _ L [34] (by rfl) hown hbel (Nat.le_refl _) (by rfl) (by simp; omega) ?_; intro v1 w1 hown1 hbel1)
              go_wp2_with fail
              have hlo := lo_next HL.out HS.out (emit_in HC.out)
              have hbd := HB.out
              rw [hlo] at hbd
              have HLO : Hid _ := hlo
              clear hlo
              go_roundw
              case rel => exact ⟨k + 1, false, false, d, _, by omega, by go_num, rfl, rfl, rfl, by have := hbd.2.2.1; omega, by have := hbd.2.2.2; omega, by exact hbd.2.1, HN.out.trans rfl, HLO.out, hown1, hbel1⟩
              case measure => simp [intOf]; omega
            · have e92 : (c == 92) = false := beqf h92
              have e34 : (c == 34) = false := beqf h34
              have HN2 : Hid (Pl.ss f (k + 1) = (true, false)) := HN.out.trans (by simp [Pl.ssStep, h92, h34])
              clear h92 h34
              go_wp2_with (at_builtin; refine wpList_app (by rfl) _ _ (by rfl) w.heap.size w _ L [c] (by rfl) hown hbel (Nat.le_refl _) (by rfl) (by simp; omega) ?_; intro v1 w1 hown1 hbel1)
              go_wp2_with fail
              have hlo := lo_next HL.out HS.out (emit_in HC.out)
              have hbd := HB.out
              rw [hlo] at hbd
              have HLO : Hid _ := hlo
              clear hlo
              go_roundw
              case rel => exact ⟨k + 1, true, false, d, _, by omega, by go_num, rfl, rfl, rfl, by have := hbd.2.2.1; omega, by have := hbd.2.2.2; omega, by exact hbd.2.1, HN2.out, HLO.out, hown1, hbel1⟩
              case measure => simp [intOf]; omega
        · go_wp2_with (at_builtin; refine wpList_app (by rfl) _ _ (by rfl) w.heap.size w _ L [c] (by rfl) hown hbel (Nat.le_refl _) (by rfl) (by simp; omega) ?_; intro v1 w1 hown1 hbel1)
          go_wp2_with fail
          have hlo := lo_next HL.out HS.out (emit_in HC.out)
          have hbd := HB.out
          rw [hlo] at hbd
          have HLO : Hid _ := hlo
          clear hlo
          go_roundw
          case rel => exact ⟨k + 1, true, false, d, _, by omega, by go_num, rfl, rfl, rfl, by have := hbd.2.2.1; omega, by have := hbd.2.2.2; omega, by exact hbd.2.1, HN.out.trans rfl, HLO.out, hown1, hbel1⟩
          case measure => simp [intOf]; omega
    · obtain rfl : k = n := by omega
      go_wp2_with fail
      go_ret
      exact ⟨_, rfl, by rw [HL.out]; exact hown, hbel⟩

set_option maxHeartbeats 400000 in
theorem lay_none (a : Option Addr) (c0 : Nat) (f : Nat → Int) (w : World) :
    Calls Try.prog 16 #[.slice a 0 c0] w fun e w' => ∃ v, e = .returned v ∧ Own w.heap.size w' v (Pl.lo f 0).1 ∧ Below w.heap.size w w' := by
  obtain ⟨i0, hi, hz0, hz1, hz2⟩ := info_parts Try.info5
  go_enter Try.func16, Try.ntmps16
  go_wp2_with (at_make; refine wpList_make_own _ rfl _ _ 22 rfl w.heap.size 5 i0 (.int .u8 0) 1 Try.underlying22 hi hz0 hz1 _ _ _ 0 rfl rfl (by omega) (by rw [hz2]; omega) (by unfold maxLen; omega) (Nat.le_refl _) ?_)
  intro w1 hown1 hgrow1
  have hbel1 : Below w.heap.size w w1 := (Below.refl _ _).grown hgrow1 (Nat.le_refl _) (fun k h => by cases h)
  go_wp2_with fail
  refine wp_loop_rounds 1 ?_
  rw [rounds_succ]
  go_wp2_with fail
  go_ret
  exact ⟨_, rfl, hown1, hbel1⟩

theorem lay_any (n c0 : Nat) (a : Option Addr) (f : Nat → Int) (w : World) (hn : n ≤ 1048576) (hf : Bts w a n f) (fw : Bool) (hfit : Pl.Fit n f fw) :
    Calls Try.prog 16 #[.slice a n c0] w fun e w' => ∃ v, e = .returned v ∧ Own w.heap.size w' v (Pl.lo f n).1 ∧ Below w.heap.size w w' := by
  rcases hf with rfl | ⟨b, o, rfl, hf⟩
  · exact lay_none a c0 f w
  · by_cases h0 : n = 0
    · subst h0; exact lay_none _ c0 f w
    · exact lay_some n b o c0 f w hn (block_lt_of_cell (hf 0 (by omega))) hf fw hfit

set_option maxHeartbeats 400000 in
theorem zzlay_any (n c0 : Nat) (a : Option Addr) (f : Nat → Int) (w : World) (hn : n ≤ 1048576) (hf : Bts w a n f) (fw : Bool) (hfit : Pl.Fit n f fw) :
    Calls Try.prog 9 #[.slice a n c0] w fun e w' => ∃ v, e = .returned v ∧ Own w.heap.size w' v (Pl.lo f n).1 ∧ Below w.heap.size w w' := by
  have HFit : Hid (Pl.Fit n f fw) := hfit
  clear hfit
  go_enter Try.func9, Try.ntmps9
  go_wp2_with fail
  refine (lay_any n c0 a f _ hn hf fw HFit.out).mono ?_
  rintro e w1 ⟨v, rfl, hown, hbel⟩
  go_wp2_with fail
  go_ret
  exact ⟨_, rfl, hown, hbel⟩

end Go.Proofs.Qxb6602398a
