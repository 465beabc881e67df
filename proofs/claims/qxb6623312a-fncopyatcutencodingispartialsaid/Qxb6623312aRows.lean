/-
  No cell of these rows narrows 'for every input' (looked for: loops, veiled, ifaces, maps, wideKeys, modest, calm, conditions, laid).
  DERIVED. THE GIVEN ROWS OF THIS SEAT. 2 by the template 'for every input the law returns true; each argument reads behind the call as it read before'; 0 by the template 'total and deterministic' (their statements: Qxb6623312aTotals.lean).
  GIVEN WITH THE SEED: the statements are not yours to turn. If you find one false, say at which input.
  Laid BY PROGRAM, IN A SANDBOX (cutbox-rows.mjs): the forced cells as the released guide's own fill.sh prints them over the translation 5aed31ddfebd738a… (all of the seat's roots in one cut). By AI agents, Wed Nov 11 2026. No macro, syntax, notation, axiom, sorry.
-/
import Derived.Test.Qxb6623312aChecked
import GoSem.Claim
import GoSem.ClaimJoined
import GoSem.ClaimMapViews
import Derived.JoinedTies
import Derived.KernelRfl
namespace Go.Proofs.Qxb6623312a
/- THE CELL 'sum', in the pinned program and in every row, IS THE sha256 OF THE DUMP (.gsa) THAT Qxb6623312aProg.lean LOADS. Nothing in Lean hashes anything: it is a label: what it is worth is what the hold of that sum in a sandbox is worth. -/
noncomputable def Try.pinned : Pinned := { name := "qxb6623312a", sum := "5aed31ddfebd738a26baa90585f9e38bbf55298bd931fada15126a77c44a6b00", checked := Try.checked }
namespace Rows
def none {H : Type} : Left H := { results := [], args := [] }

/-- 'zzlaws_pkg_client_b1.FnCopyAtFindsEncodedToken': WHATEVER THE INPUT: true; the input reads as it did. -/
def fnCopyAtFindsEncodedTokenSpec : ChangeSpec := { name := "fnCopyAtFindsEncodedToken", fn := fun _ => fun
  | [d1, d2, d3, d4] => { results := [.lit (.bool true)], args := [d1, d2, d3, d4] }
  | _ => none }
def fnCopyAtFindsEncodedTokenRow : OpenClaim := { program := "qxb6623312a", sum := "5aed31ddfebd738a26baa90585f9e38bbf55298bd931fada15126a77c44a6b00", func := "example.com/via3/via3/zzlaws_pkg_client_b1.FnCopyAtFindsEncodedToken", spec := "fnCopyAtFindsEncodedToken", apart := false }
def FnCopyAtFindsEncodedTokenSaid : Prop := fnCopyAtFindsEncodedTokenRow.holds Try.pinned (OpenSpec.ofChange fnCopyAtFindsEncodedTokenSpec)

/-- ITS FALSE NEIGHBOUR: 'it returns false'. Refute it at one input. -/
def fnCopyAtFindsEncodedTokenWrong : ChangeSpec := { name := "fnCopyAtFindsEncodedToken", fn := fun _ => fun
  | [d1, d2, d3, d4] => { results := [.lit (.bool false)], args := [d1, d2, d3, d4] }
  | _ => none }
def FnCopyAtFindsEncodedTokenWrongFalsely : Prop := fnCopyAtFindsEncodedTokenRow.holds Try.pinned (OpenSpec.ofChange fnCopyAtFindsEncodedTokenWrong)

/-- 'zzlaws_pkg_client_b1.FnCopyAtCutEncodingIsPartial': WHATEVER THE INPUT: true; the input reads as it did. -/
def fnCopyAtCutEncodingIsPartialSpec : ChangeSpec := { name := "fnCopyAtCutEncodingIsPartial", fn := fun _ => fun
  | [d1, d2, d3] => { results := [.lit (.bool true)], args := [d1, d2, d3] }
  | _ => none }
def fnCopyAtCutEncodingIsPartialRow : OpenClaim := { program := "qxb6623312a", sum := "5aed31ddfebd738a26baa90585f9e38bbf55298bd931fada15126a77c44a6b00", func := "example.com/via3/via3/zzlaws_pkg_client_b1.FnCopyAtCutEncodingIsPartial", spec := "fnCopyAtCutEncodingIsPartial", apart := false }
def FnCopyAtCutEncodingIsPartialSaid : Prop := fnCopyAtCutEncodingIsPartialRow.holds Try.pinned (OpenSpec.ofChange fnCopyAtCutEncodingIsPartialSpec)

/-- ITS FALSE NEIGHBOUR: 'it returns false'. Refute it at one input. -/
def fnCopyAtCutEncodingIsPartialWrong : ChangeSpec := { name := "fnCopyAtCutEncodingIsPartial", fn := fun _ => fun
  | [d1, d2, d3] => { results := [.lit (.bool false)], args := [d1, d2, d3] }
  | _ => none }
def FnCopyAtCutEncodingIsPartialWrongFalsely : Prop := fnCopyAtCutEncodingIsPartialRow.holds Try.pinned (OpenSpec.ofChange fnCopyAtCutEncodingIsPartialWrong)

end Rows
end Go.Proofs.Qxb6623312a
