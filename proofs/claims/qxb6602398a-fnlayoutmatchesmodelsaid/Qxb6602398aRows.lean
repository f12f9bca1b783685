/-
  No cell of these rows narrows 'for every input' (looked for: loops, veiled, ifaces, maps, wideKeys, modest, calm, conditions, laid).
  DERIVED. THE GIVEN ROWS OF THIS SEAT. 3 by the template 'for every input the law returns true; each argument reads behind the call as it read before'; 0 by the template 'total and deterministic' (their statements: Qxb6602398aTotals.lean).
  GIVEN WITH THE SEED: the statements are not yours to turn. If you find one false, say at which input.
  Laid BY PROGRAM, IN A SANDBOX (cutbox-rows.mjs): the forced cells as the released guide's own fill.sh prints them over the translation eeb5a947b3ac9e8c… (all of the seat's roots in one cut). By AI agents, Wed Nov 11 2026. No macro, syntax, notation, axiom, sorry.
-/
import Derived.Test.Qxb6602398aChecked
import GoSem.Claim
import GoSem.ClaimJoined
import GoSem.ClaimMapViews
import Derived.JoinedTies
import Derived.KernelRfl
namespace Go.Proofs.Qxb6602398a
/- THE CELL 'sum', in the pinned program and in every row, IS THE sha256 OF THE DUMP (.gsa) THAT Qxb6602398aProg.lean LOADS. Nothing in Lean hashes anything: it is a label: what it is worth is what the hold of that sum in a sandbox is worth. -/
noncomputable def Try.pinned : Pinned := { name := "qxb6602398a", sum := "eeb5a947b3ac9e8cb4566a6d1a3b5269fa8f3eb80f998828f6dc630aef8bc78a", checked := Try.checked }
namespace Rows
def none {H : Type} : Left H := { results := [], args := [] }

/-- 'zzlaws_internal_jsonindent_b1.FnLayOutMatchesModel': WHATEVER THE INPUT: true; the input reads as it did. -/
def fnLayOutMatchesModelSpec : ChangeSpec := { name := "fnLayOutMatchesModel", fn := fun _ => fun
  | [d] => { results := [.lit (.bool true)], args := [d] }
  | _ => none }
def fnLayOutMatchesModelRow : OpenClaim := { program := "qxb6602398a", sum := "eeb5a947b3ac9e8cb4566a6d1a3b5269fa8f3eb80f998828f6dc630aef8bc78a", func := "groundplan.example/groundplan/zzlaws_internal_jsonindent_b1.FnLayOutMatchesModel", spec := "fnLayOutMatchesModel", recurses := true, apart := false }
def FnLayOutMatchesModelSaid : Prop := fnLayOutMatchesModelRow.holds Try.pinned (OpenSpec.ofChange fnLayOutMatchesModelSpec)

/-- ITS FALSE NEIGHBOUR: 'it returns false'. Refute it at one input. -/
def fnLayOutMatchesModelWrong : ChangeSpec := { name := "fnLayOutMatchesModel", fn := fun _ => fun
  | [d] => { results := [.lit (.bool false)], args := [d] }
  | _ => none }
def FnLayOutMatchesModelWrongFalsely : Prop := fnLayOutMatchesModelRow.holds Try.pinned (OpenSpec.ofChange fnLayOutMatchesModelWrong)

/-- 'zzlaws_internal_jsonindent_b1.FnLayOutCompactsBack': WHATEVER THE INPUT: true; the input reads as it did. -/
def fnLayOutCompactsBackSpec : ChangeSpec := { name := "fnLayOutCompactsBack", fn := fun _ => fun
  | [d] => { results := [.lit (.bool true)], args := [d] }
  | _ => none }
def fnLayOutCompactsBackRow : OpenClaim := { program := "qxb6602398a", sum := "eeb5a947b3ac9e8cb4566a6d1a3b5269fa8f3eb80f998828f6dc630aef8bc78a", func := "groundplan.example/groundplan/zzlaws_internal_jsonindent_b1.FnLayOutCompactsBack", spec := "fnLayOutCompactsBack", apart := false }
def FnLayOutCompactsBackSaid : Prop := fnLayOutCompactsBackRow.holds Try.pinned (OpenSpec.ofChange fnLayOutCompactsBackSpec)

/-- ITS FALSE NEIGHBOUR: 'it returns false'. Refute it at one input. -/
def fnLayOutCompactsBackWrong : ChangeSpec := { name := "fnLayOutCompactsBack", fn := fun _ => fun
  | [d] => { results := [.lit (.bool false)], args := [d] }
  | _ => none }
def FnLayOutCompactsBackWrongFalsely : Prop := fnLayOutCompactsBackRow.holds Try.pinned (OpenSpec.ofChange fnLayOutCompactsBackWrong)

/-- 'zzlaws_internal_jsonindent_b1.FnLayOutGrowsLinearly': WHATEVER THE INPUT: true; the input reads as it did. -/
def fnLayOutGrowsLinearlySpec : ChangeSpec := { name := "fnLayOutGrowsLinearly", fn := fun _ => fun
  | [d] => { results := [.lit (.bool true)], args := [d] }
  | _ => none }
def fnLayOutGrowsLinearlyRow : OpenClaim := { program := "qxb6602398a", sum := "eeb5a947b3ac9e8cb4566a6d1a3b5269fa8f3eb80f998828f6dc630aef8bc78a", func := "groundplan.example/groundplan/zzlaws_internal_jsonindent_b1.FnLayOutGrowsLinearly", spec := "fnLayOutGrowsLinearly", apart := false }
def FnLayOutGrowsLinearlySaid : Prop := fnLayOutGrowsLinearlyRow.holds Try.pinned (OpenSpec.ofChange fnLayOutGrowsLinearlySpec)

/-- ITS FALSE NEIGHBOUR: 'it returns false'. Refute it at one input. -/
def fnLayOutGrowsLinearlyWrong : ChangeSpec := { name := "fnLayOutGrowsLinearly", fn := fun _ => fun
  | [d] => { results := [.lit (.bool false)], args := [d] }
  | _ => none }
def FnLayOutGrowsLinearlyWrongFalsely : Prop := fnLayOutGrowsLinearlyRow.holds Try.pinned (OpenSpec.ofChange fnLayOutGrowsLinearlyWrong)

end Rows
end Go.Proofs.Qxb6602398a
