/-
  No cell of these rows narrows 'for every input' (looked for: loops, veiled, ifaces, maps, wideKeys, modest, calm, conditions, laid).
  DERIVED. THE GIVEN ROWS OF THIS SEAT. 2 by the template 'for every input the law returns true; each argument reads behind the call as it read before'; 0 by the template 'total and deterministic' (their statements: Qxb6623306aTotals.lean).
  GIVEN WITH THE SEED: the statements are not yours to turn. If you find one false, say at which input.
  Laid BY PROGRAM, IN A SANDBOX (cutbox-rows.mjs): the forced cells as the released guide's own fill.sh prints them over the translation 1afedc1b0006a16b… (all of the seat's roots in one cut). By AI agents, Wed Nov 11 2026. No macro, syntax, notation, axiom, sorry.
-/
import Derived.Test.Qxb6623306aChecked
import GoSem.Claim
import GoSem.ClaimJoined
import GoSem.ClaimMapViews
import Derived.JoinedTies
import Derived.KernelRfl
namespace Go.Proofs.Qxb6623306a
/- THE CELL 'sum', in the pinned program and in every row, IS THE sha256 OF THE DUMP (.gsa) THAT Qxb6623306aProg.lean LOADS. Nothing in Lean hashes anything: it is a label: what it is worth is what the hold of that sum in a sandbox is worth. -/
noncomputable def Try.pinned : Pinned := { name := "qxb6623306a", sum := "1afedc1b0006a16bf44c899684a36e74ded8f5c249320f8457d063daca9357d3", checked := Try.checked }
namespace Rows
def none {H : Type} : Left H := { results := [], args := [] }

/-- 'zzlaws_root_b1.FnClassDependsOnNIDAloneUpToCase': WHATEVER THE INPUT: true; the input reads as it did. -/
def fnClassDependsOnNIDAloneUpToCaseSpec : ChangeSpec := { name := "fnClassDependsOnNIDAloneUpToCase", fn := fun _ => fun
  | [d1, d2, d3, d4, d5, d6, d7, d8, d9, d10, d11, d12] => { results := [.lit (.bool true)], args := [d1, d2, d3, d4, d5, d6, d7, d8, d9, d10, d11, d12] }
  | _ => none }
def fnClassDependsOnNIDAloneUpToCaseRow : OpenClaim := { program := "qxb6623306a", sum := "1afedc1b0006a16bf44c899684a36e74ded8f5c249320f8457d063daca9357d3", func := "example.com/namestring/namestring/zzlaws_root_b1.FnClassDependsOnNIDAloneUpToCase", spec := "fnClassDependsOnNIDAloneUpToCase", apart := false }
def FnClassDependsOnNIDAloneUpToCaseSaid : Prop := fnClassDependsOnNIDAloneUpToCaseRow.holds Try.pinned (OpenSpec.ofChange fnClassDependsOnNIDAloneUpToCaseSpec)

/-- ITS FALSE NEIGHBOUR: 'it returns false'. Refute it at one input. -/
def fnClassDependsOnNIDAloneUpToCaseWrong : ChangeSpec := { name := "fnClassDependsOnNIDAloneUpToCase", fn := fun _ => fun
  | [d1, d2, d3, d4, d5, d6, d7, d8, d9, d10, d11, d12] => { results := [.lit (.bool false)], args := [d1, d2, d3, d4, d5, d6, d7, d8, d9, d10, d11, d12] }
  | _ => none }
def FnClassDependsOnNIDAloneUpToCaseWrongFalsely : Prop := fnClassDependsOnNIDAloneUpToCaseRow.holds Try.pinned (OpenSpec.ofChange fnClassDependsOnNIDAloneUpToCaseWrong)

/-- 'zzlaws_root_b1.FnClassInformalNumerals': WHATEVER THE INPUT: true; the input reads as it did. -/
def fnClassInformalNumeralsSpec : ChangeSpec := { name := "fnClassInformalNumerals", fn := fun _ => fun
  | [d1, d2, d3] => { results := [.lit (.bool true)], args := [d1, d2, d3] }
  | _ => none }
def fnClassInformalNumeralsRow : OpenClaim := { program := "qxb6623306a", sum := "1afedc1b0006a16bf44c899684a36e74ded8f5c249320f8457d063daca9357d3", func := "example.com/namestring/namestring/zzlaws_root_b1.FnClassInformalNumerals", spec := "fnClassInformalNumerals", apart := false }
def FnClassInformalNumeralsSaid : Prop := fnClassInformalNumeralsRow.holds Try.pinned (OpenSpec.ofChange fnClassInformalNumeralsSpec)

/-- ITS FALSE NEIGHBOUR: 'it returns false'. Refute it at one input. -/
def fnClassInformalNumeralsWrong : ChangeSpec := { name := "fnClassInformalNumerals", fn := fun _ => fun
  | [d1, d2, d3] => { results := [.lit (.bool false)], args := [d1, d2, d3] }
  | _ => none }
def FnClassInformalNumeralsWrongFalsely : Prop := fnClassInformalNumeralsRow.holds Try.pinned (OpenSpec.ofChange fnClassInformalNumeralsWrong)

end Rows
end Go.Proofs.Qxb6623306a
