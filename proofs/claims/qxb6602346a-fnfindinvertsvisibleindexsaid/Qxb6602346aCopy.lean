/-
  SHARED: the copy of a slice of ints into a new row; what a slice reads as behind later steps.
-/
import Derived.Test.Qxb6602346aZZJoin
import Derived.Deep.DeepCutAuto
import Derived.Laws.CopyOwn
import Derived.WalkSpells
namespace Go.Proofs.Qxb6602346a
open Go.RowKit
set_option linter.unusedVariables false

/-- 'copy(dst, src)': dst a new row of n ints, src as long. -/
theorem wpList_copy_ints {P : Program} {w : World} {ops : Array Oper} {rest : List Oper} {o : Oper} {a : Act} {Q : Exit → Act → World → Prop} (hgd : o.guard = none) (d s : Operand) (dT sT : TypeId)
    (ho : o.op = .call { callee := .builtin .copy, args := #[d, s], argTypes := #[dT, sT] }) (elem : TypeId) (hu : P.underlying dT = some (.slice elem)) (hsz : (P.info? elem).map (·.size) = some 1)
    (g n : Nat) (sp : Option Addr) (sCap : Nat) (hd : a.eval d = .slice (some ⟨g, 0, none⟩) n n) (hs : a.eval s = .slice sp n sCap)
    (f : Nat → Value) (S : Nat → Int) (hg : w.rowIs g 3 n f) (hS : Ints w sp n S)
    (h : ∀ w', w'.rowIs g 3 n (intCell S) → Below g w w' → wpList P ops Q rest (a.put o.dst (goInt n)) w') :
    wpList P ops Q (o :: rest) a w := by
  obtain ⟨c, hc, hcn, _⟩ := hg
  have hl : ((List.range n).map (intCell S)).length = n := by simp
  have hget : ∀ j v, ((List.range n).map (intCell S))[j]? = some v → j < n ∧ v = intCell S j := by
    intro j v hj
    have hlt := (List.getElem?_eq_some_iff.1 hj).1
    rw [hl] at hlt
    refine ⟨hlt, ?_⟩
    rw [List.getElem?_map, List.getElem?_range hlt] at hj
    exact (Option.some.inj hj).symm
  refine wpList_copy_splice hgd d s dT sT ho elem hu hsz _ _ _ _ _ _ hd hs g 0 c.toList 3 (by simpa using hc) ((List.range n).map (intCell S)) (by rw [hl]; exact (Nat.min_self n).symm) ?_ ?_ ?_ g w (Below.refl _ _) (Nat.le_refl _) ?_
  · intro hpos
    refine ⟨rfl, ?_⟩
    rcases hS with h0 | ⟨b, off, rfl, hcell⟩
    · rw [hl] at hpos; omega
    · refine ⟨_, rfl, fun j v hj => ?_⟩
      obtain ⟨hlt, rfl⟩ := hget j v hj
      rw [Addr.add_lit]
      exact hcell j hlt
  · rw [hl]; simp [hcn]
  · intro v hv
    obtain ⟨j, _, rfl⟩ := List.mem_map.1 hv
    rfl
  · intro w' hw' hb'
    have e : splice c.toList 0 ((List.range n).map (intCell S)) = (List.range n).map (intCell S) := by
      unfold splice
      rw [hl, List.take_zero, List.nil_append, List.drop_of_length_le (by simp [hcn]), List.append_nil]
    have e2 := hw'.out
    rw [e] at e2
    have hfin := h w' ⟨_, e2, by simp, fun i hi => by simp [hi]⟩ hb'
    rw [hl]
    exact hfin

theorem ints_of_heap {w w' : World} {a : Option Addr} {n : Nat} {f : Nat → Int} (h : Ints w a n f) (e : ∀ k, k < w.heap.size → w'.heap[k]? = w.heap[k]?) : Ints w' a n f := by
  rcases h with h | ⟨b, off, rfl, hc⟩
  · exact .inl h
  · refine .inr ⟨b, off, rfl, fun j hj => ?_⟩
    have hb := block_lt_of_cell (hc j hj)
    rw [World.cell?_of_block (w := w) (e b hb)]
    exact hc j hj
theorem ints_below {w w' : World} {a : Option Addr} {n : Nat} {f : Nat → Int} (h : Ints w a n f) (hb : Below w.heap.size w w') : Ints w' a n f := ints_of_heap h hb.block
theorem ints_alloc {w : World} {a : Option Addr} {n : Nat} {f : Nat → Int} (h : Ints w a n f) {o : Obj} : Ints (w.alloc o) a n f := ints_below h ((Below.refl _ _).alloc (Nat.le_refl _) _)
theorem ints_row {w : World} {g n : Nat} {f : Nat → Int} (h : w.rowIs g 3 n (intCell f)) : Ints w (some ⟨g, 0, none⟩) n f :=
  .inr ⟨g, 0, rfl, fun j hj => by rw [Nat.zero_add]; exact h.cell hj⟩

end Go.Proofs.Qxb6602346a
