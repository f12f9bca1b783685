/-
  A SLICE OF BYTES THAT THE CALL ITSELF MAKES AND APPENDS TO; the walk of newLine.
-/
import Derived.Test.Qxb6602398aBase
import Derived.Test.Qxb6602398aStr
import Derived.Lib.AppendStr
namespace Go.Proofs.Qxb6602398a
open Go.RowKit
set_option linter.unusedVariables false

/-- The value v owns the bytes xs, in blocks from B on. -/
def Own (B : Nat) (w : World) (v : Value) (xs : List Int) : Prop := w.ownsRow B 5 1 v xs.length (xs.map (Value.int .u8))

theorem Own.alloc {B : Nat} {w : World} {v : Value} {xs : List Int} (h : Own B w v xs) (o : Obj) : Own B (w.alloc o) v xs := World.ownsRow.alloc h o

theorem own_block {B : Nat} {w : World} {v : Value} {xs : List Int} (h : Own B w v xs) : ∀ k, v.ownBlock = some k → B ≤ k := by
  obtain ⟨_, h2⟩ := h
  rcases h2 with ⟨rfl, _⟩ | ⟨g, cap, cur, rfl, hg, _⟩
  · intro k hk; cases hk
  · intro k hk
    have : g = k := Option.some.inj hk
    omega

/-- THE SLICE's SHAPE. -/
theorem own_form {B : Nat} {w : World} {v : Value} {xs : List Int} (h : Own B w v xs) : ∃ a c, v = .slice a xs.length c := by
  obtain ⟨_, h2⟩ := h
  rcases h2 with ⟨rfl, h0⟩ | ⟨g, cap, cur, rfl, _⟩
  · exact ⟨none, 0, by rw [h0]⟩
  · exact ⟨_, _, rfl⟩

/-- AS BYTES TO BE READ. -/
theorem own_bts {B : Nat} {w : World} {a : Option Addr} {c n : Nat} {xs : List Int} (h : Own B w (.slice a n c) xs) : n = xs.length ∧ Bts w a n (fun j => xs.getD j 0) := by
  obtain ⟨h1, h2⟩ := h
  rcases h2 with ⟨e, h0⟩ | ⟨g, cap, cur, e, hg, hh, hl, hm, hsz, hcur⟩
  · have : n = 0 := by cases e; rfl
    exact ⟨by omega, .inl this⟩
  · obtain ⟨rfl, rfl, rfl⟩ : a = some ⟨g, 0, none⟩ ∧ n = xs.length ∧ c = cap := by
      cases e; exact ⟨rfl, rfl, rfl⟩
    refine ⟨rfl, .inr ⟨g, 0, rfl, fun j hj => ?_⟩⟩
    rw [Nat.zero_add, cell_of_row _ _ _ _ _ _ hh]
    have e2 : (cur.toList.take (xs.length * 1))[j]? = (xs.map (Value.int .u8))[j]? := by rw [hcur]
    rw [List.getElem?_take_of_lt (by omega), List.getElem?_map] at e2
    rw [← Array.getElem?_toList, e2]
    simp [List.getD, hj]

/-- 'append(out, c)' | 'append(out, c, d)': what is appended lies in the block that was laid last. -/
theorem wpList_app {w : World} {ops : Array Oper} {rest : List Oper} {o : Oper} {a : Act} {Q : Exit → Act → World → Prop} (hgd : o.guard = none) (s x : Operand)
    (ho : o.op = .call { callee := .builtin .append, args := #[s, x], argTypes := #[22, 22] })
    (B : Nat) (w0 : World) (v : Value) (xs news : List Int) (hs : a.eval s = v) (hown : Own B w v xs) (hbel : Below B w0 w) (hB : B ≤ w0.heap.size)
    (hx : a.eval x = .slice (some ⟨w.heap.size, 0, none⟩) news.length news.length) (hlen : xs.length + news.length ≤ 140737488355328)
    (h : ∀ v' w', Own B w' v' (xs ++ news) → Below B w0 w' → wpList Try.prog ops Q rest (a.put o.dst v') w') :
    wpList Try.prog ops Q (o :: rest) a (w.alloc (.cells (news.map (Value.int .u8)).toArray 5)) := by
  obtain ⟨i0, hi, hz0, hz1, hz2⟩ := info_parts Try.info5
  have hsz := hbel.size
  refine wpList_append_own _ hgd s x 22 ho B 5 i0 (.int .u8 0) 1 1 Try.underlying22 hi hz0 hz1 hz2 rfl (by decide) v xs.length (xs.map (Value.int .u8)) hs (hown.alloc _) ⟨w.heap.size, 0, none⟩ news.length news.length (news.map (Value.int .u8)) hx (by simp) ?_ (ints_oneCell _ _) (by unfold maxLen; omega) (by omega) (by simp; omega) ?_
  · intro j u hj
    rw [Addr.add_lit, cell_of_row _ _ _ _ _ _ (heap_alloc_new _ _), Nat.zero_add]
    simpa using hj
  · intro v' w' h1 h2 _
    refine h v' w' ?_ ((hbel.alloc (by omega) _).grown h2 (by simp; omega) (own_block hown))
    unfold Own
    rw [List.map_append, List.length_append]
    exact h1

/-- 'append(out, "  "...)'. -/
theorem wpList_app_str {w : World} {ops : Array Oper} {rest : List Oper} {o : Oper} {a : Act} {Q : Exit → Act → World → Prop} (hgd : o.guard = none) (s x : Operand)
    (ho : o.op = .call { callee := .builtin .append, args := #[s, x], argTypes := #[22, 9] })
    (B : Nat) (w0 : World) (v : Value) (xs news : List Int) (hs : a.eval s = v) (hown : Own B w v xs) (hbel : Below B w0 w) (hB : B ≤ w0.heap.size) (t : ByteArray)
    (hx : a.eval x = .string t) (ht : t.size = news.length) (hcells : Lib.strCells t = news.map (Value.int .u8)) (hlen : xs.length + news.length ≤ 140737488355328)
    (h : ∀ v' w', Own B w' v' (xs ++ news) → Below B w0 w' → wpList Try.prog ops Q rest (a.put o.dst v') w') :
    wpList Try.prog ops Q (o :: rest) a w := by
  obtain ⟨i0, hi, hz0, hz1, hz2⟩ := info_parts Try.info5
  have hsz := hbel.size
  refine Lib.wpList_append_own_string _ hgd s x 22 9 ho B 5 i0 Try.underlying22 Try.underlying9 hi hz0 hz1 hz2 v xs.length (xs.map (Value.int .u8)) hs hown t hx (by unfold maxLen; omega) (by omega) (by omega) ?_
  intro v' w' h1 h2 _
  refine h v' w' ?_ (hbel.grown h2 (by omega) (own_block hown))
  unfold Own
  rw [List.map_append, List.length_append, ← hcells, ← ht]
  exact h1

theorem rep_two (xs : List Int) (k : Nat) : xs ++ 10 :: (List.replicate (2 * k) 32 ++ [32, 32]) = xs ++ (10 :: List.replicate (2 * (k + 1)) 32) := by
  have e : List.replicate (2 * (k + 1)) (32 : Int) = List.replicate (2 * k) 32 ++ [32, 32] := by
    rw [show 2 * (k + 1) = 2 * k + 2 by omega, ← List.replicate_append_replicate]; rfl
  rw [e]

set_option maxHeartbeats 400000 in
theorem newLine_any (B : Nat) (w0 : World) (v : Value) (xs : List Int) (d : Int) (w : World) (hown : Own B w v xs) (hbel : Below B w0 w) (hB : B ≤ w0.heap.size) (hd : d ≤ 32) (hd' : -9223372036854775808 ≤ d) (hlen : xs.length ≤ 100000000) :
    Calls Try.prog 22 #[v, .int .i64 d] w fun e w' => ∃ v', e = .returned v' ∧ Own B w' v' (xs ++ Pl.nl d) ∧ Below B w0 w' := by
  go_enter Try.func22, Try.ntmps22
  go_wp2_with (at_builtin; refine wpList_app (by rfl) _ _ (by rfl) B w0 v xs [10] (by rfl) hown hbel hB (by rfl) (by simp; omega) ?_)
  intro v1 w1 hown1 hbel1
  go_wp2_with fail
  go_loopw [0, 9] (fun u i wr => ∃ (k : Nat), k ≤ d.toNat ∧ i = .int .i64 k ∧ Own B wr u (xs ++ (10 :: List.replicate (2 * k) 32)) ∧ Below B w0 wr)
    (fun _ i _ => d.toNat - (intOf i).toNat)
  case atStart => exact ⟨0, Nat.zero_le _, rfl, by simpa using hown1, hbel1⟩
  case round =>
    obtain ⟨k, hk, rfl, hownk, hbelk⟩ := hrel
    by_cases hlt : (k : Int) < d
    · go_wp2_with (at_builtin; refine wpList_app_str (by rfl) _ _ (by rfl) B w0 _ _ [32, 32] (by rfl) hownk hbelk hB _ (by rfl) (by rfl) (by rfl) (by simp; omega) ?_)
      intro v2 w2 hown2 hbel2
      rw [rep_two] at hown2
      go_wp2_with fail
      go_roundw
      case rel => exact ⟨k + 1, by omega, by go_num, hown2, hbel2⟩
      case measure => simp [intOf]; omega
    · go_wp2_with fail
      go_ret
      obtain rfl : k = d.toNat := by omega
      exact ⟨_, rfl, hownk, hbelk⟩

end Go.Proofs.Qxb6602398a
