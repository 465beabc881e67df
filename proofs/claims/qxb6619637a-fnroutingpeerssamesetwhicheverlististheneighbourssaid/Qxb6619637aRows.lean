/-
  No cell of these rows narrows 'for every input' (looked for: loops, veiled, ifaces, maps, wideKeys, modest, calm, conditions, laid).
  DERIVED. THE GIVEN ROWS OF THIS SEAT. 5 by the template 'for every input the law returns true; each argument reads behind the call as it read before'; 0 by the template 'total and deterministic' (their statements: Qxb6619637aTotals.lean).
  GIVEN WITH THE SEED: the statements are not yours to turn. If you find one false, say at which input.
  Laid BY PROGRAM, IN A SANDBOX (cutbox-rows.mjs): the forced cells as the released guide's own fill.sh prints them over the translation fe5a2659618143a7… (all of the seat's roots in one cut). By AI agents, Wed Nov 11 2026. No macro, syntax, notation, axiom, sorry.
-/
import Derived.Test.Qxb6619637aChecked
import GoSem.Claim
import GoSem.ClaimJoined
import GoSem.ClaimMapViews
import Derived.JoinedTies
import Derived.KernelRfl
namespace Go.Proofs.Qxb6619637a
/- THE CELL 'sum', in the pinned program and in every row, IS THE sha256 OF THE DUMP (.gsa) THAT Qxb6619637aProg.lean LOADS. Nothing in Lean hashes anything: it is a label: what it is worth is what the hold of that sum in a sandbox is worth. -/
noncomputable def Try.pinned : Pinned := { name := "qxb6619637a", sum := "fe5a2659618143a71c925e5b1eee2c2aa9c1fcd6d82554f730c419314f94937c", checked := Try.checked }
namespace Rows
def none {H : Type} : Left H := { results := [], args := [] }

/-- 'zzlaws_internal_chord_b1.FnSameSetIsEqualLengthAndSubsetOrderFree': WHATEVER THE INPUT: true; the input reads as it did. -/
def fnSameSetIsEqualLengthAndSubsetOrderFreeSpec : ChangeSpec := { name := "fnSameSetIsEqualLengthAndSubsetOrderFree", fn := fun _ => fun
  | [d1, d2] => { results := [.lit (.bool true)], args := [d1, d2] }
  | _ => none }
def fnSameSetIsEqualLengthAndSubsetOrderFreeRow : OpenClaim := { program := "qxb6619637a", sum := "fe5a2659618143a71c925e5b1eee2c2aa9c1fcd6d82554f730c419314f94937c", func := "example.com/peerfold/peerfold/zzlaws_internal_chord_b1.FnSameSetIsEqualLengthAndSubsetOrderFree", spec := "fnSameSetIsEqualLengthAndSubsetOrderFree", apart := false }
def FnSameSetIsEqualLengthAndSubsetOrderFreeSaid : Prop := fnSameSetIsEqualLengthAndSubsetOrderFreeRow.holds Try.pinned (OpenSpec.ofChange fnSameSetIsEqualLengthAndSubsetOrderFreeSpec)

/-- ITS FALSE NEIGHBOUR: 'it returns false'. Refute it at one input. -/
def fnSameSetIsEqualLengthAndSubsetOrderFreeWrong : ChangeSpec := { name := "fnSameSetIsEqualLengthAndSubsetOrderFree", fn := fun _ => fun
  | [d1, d2] => { results := [.lit (.bool false)], args := [d1, d2] }
  | _ => none }
def FnSameSetIsEqualLengthAndSubsetOrderFreeWrongFalsely : Prop := fnSameSetIsEqualLengthAndSubsetOrderFreeRow.holds Try.pinned (OpenSpec.ofChange fnSameSetIsEqualLengthAndSubsetOrderFreeWrong)

/-- 'zzlaws_internal_chord_b1.FnSameSetHoldsAtAnyRotationAndRefusesOneMore': WHATEVER THE INPUT: true; the input reads as it did. -/
def fnSameSetHoldsAtAnyRotationAndRefusesOneMoreSpec : ChangeSpec := { name := "fnSameSetHoldsAtAnyRotationAndRefusesOneMore", fn := fun _ => fun
  | [d1, d2, d3] => { results := [.lit (.bool true)], args := [d1, d2, d3] }
  | _ => none }
def fnSameSetHoldsAtAnyRotationAndRefusesOneMoreRow : OpenClaim := { program := "qxb6619637a", sum := "fe5a2659618143a71c925e5b1eee2c2aa9c1fcd6d82554f730c419314f94937c", func := "example.com/peerfold/peerfold/zzlaws_internal_chord_b1.FnSameSetHoldsAtAnyRotationAndRefusesOneMore", spec := "fnSameSetHoldsAtAnyRotationAndRefusesOneMore", apart := false }
def FnSameSetHoldsAtAnyRotationAndRefusesOneMoreSaid : Prop := fnSameSetHoldsAtAnyRotationAndRefusesOneMoreRow.holds Try.pinned (OpenSpec.ofChange fnSameSetHoldsAtAnyRotationAndRefusesOneMoreSpec)

/-- ITS FALSE NEIGHBOUR: 'it returns false'. Refute it at one input. -/
def fnSameSetHoldsAtAnyRotationAndRefusesOneMoreWrong : ChangeSpec := { name := "fnSameSetHoldsAtAnyRotationAndRefusesOneMore", fn := fun _ => fun
  | [d1, d2, d3] => { results := [.lit (.bool false)], args := [d1, d2, d3] }
  | _ => none }
def FnSameSetHoldsAtAnyRotationAndRefusesOneMoreWrongFalsely : Prop := fnSameSetHoldsAtAnyRotationAndRefusesOneMoreRow.holds Try.pinned (OpenSpec.ofChange fnSameSetHoldsAtAnyRotationAndRefusesOneMoreWrong)

/-- 'zzlaws_internal_chord_b1.FnRoutingPeersIsNeighboursThenEachNewFingerOnce': WHATEVER THE INPUT: true; the input reads as it did. -/
def fnRoutingPeersIsNeighboursThenEachNewFingerOnceSpec : ChangeSpec := { name := "fnRoutingPeersIsNeighboursThenEachNewFingerOnce", fn := fun _ => fun
  | [d1, d2, d3, d4] => { results := [.lit (.bool true)], args := [d1, d2, d3, d4] }
  | _ => none }
def fnRoutingPeersIsNeighboursThenEachNewFingerOnceRow : OpenClaim := { program := "qxb6619637a", sum := "fe5a2659618143a71c925e5b1eee2c2aa9c1fcd6d82554f730c419314f94937c", func := "example.com/peerfold/peerfold/zzlaws_internal_chord_b1.FnRoutingPeersIsNeighboursThenEachNewFingerOnce", spec := "fnRoutingPeersIsNeighboursThenEachNewFingerOnce", apart := false }
def FnRoutingPeersIsNeighboursThenEachNewFingerOnceSaid : Prop := fnRoutingPeersIsNeighboursThenEachNewFingerOnceRow.holds Try.pinned (OpenSpec.ofChange fnRoutingPeersIsNeighboursThenEachNewFingerOnceSpec)

/-- ITS FALSE NEIGHBOUR: 'it returns false'. Refute it at one input. -/
def fnRoutingPeersIsNeighboursThenEachNewFingerOnceWrong : ChangeSpec := { name := "fnRoutingPeersIsNeighboursThenEachNewFingerOnce", fn := fun _ => fun
  | [d1, d2, d3, d4] => { results := [.lit (.bool false)], args := [d1, d2, d3, d4] }
  | _ => none }
def FnRoutingPeersIsNeighboursThenEachNewFingerOnceWrongFalsely : Prop := fnRoutingPeersIsNeighboursThenEachNewFingerOnceRow.holds Try.pinned (OpenSpec.ofChange fnRoutingPeersIsNeighboursThenEachNewFingerOnceWrong)

/-- 'zzlaws_internal_chord_b1.FnRoutingPeersFoldsOverAnySplitOfTheFingers': WHATEVER THE INPUT: true; the input reads as it did. -/
def fnRoutingPeersFoldsOverAnySplitOfTheFingersSpec : ChangeSpec := { name := "fnRoutingPeersFoldsOverAnySplitOfTheFingers", fn := fun _ => fun
  | [d1, d2, d3, d4, d5] => { results := [.lit (.bool true)], args := [d1, d2, d3, d4, d5] }
  | _ => none }
def fnRoutingPeersFoldsOverAnySplitOfTheFingersRow : OpenClaim := { program := "qxb6619637a", sum := "fe5a2659618143a71c925e5b1eee2c2aa9c1fcd6d82554f730c419314f94937c", func := "example.com/peerfold/peerfold/zzlaws_internal_chord_b1.FnRoutingPeersFoldsOverAnySplitOfTheFingers", spec := "fnRoutingPeersFoldsOverAnySplitOfTheFingers", apart := false }
def FnRoutingPeersFoldsOverAnySplitOfTheFingersSaid : Prop := fnRoutingPeersFoldsOverAnySplitOfTheFingersRow.holds Try.pinned (OpenSpec.ofChange fnRoutingPeersFoldsOverAnySplitOfTheFingersSpec)

/-- ITS FALSE NEIGHBOUR: 'it returns false'. Refute it at one input. -/
def fnRoutingPeersFoldsOverAnySplitOfTheFingersWrong : ChangeSpec := { name := "fnRoutingPeersFoldsOverAnySplitOfTheFingers", fn := fun _ => fun
  | [d1, d2, d3, d4, d5] => { results := [.lit (.bool false)], args := [d1, d2, d3, d4, d5] }
  | _ => none }
def FnRoutingPeersFoldsOverAnySplitOfTheFingersWrongFalsely : Prop := fnRoutingPeersFoldsOverAnySplitOfTheFingersRow.holds Try.pinned (OpenSpec.ofChange fnRoutingPeersFoldsOverAnySplitOfTheFingersWrong)

/-- 'zzlaws_internal_chord_b1.FnRoutingPeersSameSetWhicheverListIsTheNeighbours': WHATEVER THE INPUT: true; the input reads as it did. -/
def fnRoutingPeersSameSetWhicheverListIsTheNeighboursSpec : ChangeSpec := { name := "fnRoutingPeersSameSetWhicheverListIsTheNeighbours", fn := fun _ => fun
  | [d1, d2, d3, d4] => { results := [.lit (.bool true)], args := [d1, d2, d3, d4] }
  | _ => none }
def fnRoutingPeersSameSetWhicheverListIsTheNeighboursRow : OpenClaim := { program := "qxb6619637a", sum := "fe5a2659618143a71c925e5b1eee2c2aa9c1fcd6d82554f730c419314f94937c", func := "example.com/peerfold/peerfold/zzlaws_internal_chord_b1.FnRoutingPeersSameSetWhicheverListIsTheNeighbours", spec := "fnRoutingPeersSameSetWhicheverListIsTheNeighbours", apart := false }
def FnRoutingPeersSameSetWhicheverListIsTheNeighboursSaid : Prop := fnRoutingPeersSameSetWhicheverListIsTheNeighboursRow.holds Try.pinned (OpenSpec.ofChange fnRoutingPeersSameSetWhicheverListIsTheNeighboursSpec)

/-- ITS FALSE NEIGHBOUR: 'it returns false'. Refute it at one input. -/
def fnRoutingPeersSameSetWhicheverListIsTheNeighboursWrong : ChangeSpec := { name := "fnRoutingPeersSameSetWhicheverListIsTheNeighbours", fn := fun _ => fun
  | [d1, d2, d3, d4] => { results := [.lit (.bool false)], args := [d1, d2, d3, d4] }
  | _ => none }
def FnRoutingPeersSameSetWhicheverListIsTheNeighboursWrongFalsely : Prop := fnRoutingPeersSameSetWhicheverListIsTheNeighboursRow.holds Try.pinned (OpenSpec.ofChange fnRoutingPeersSameSetWhicheverListIsTheNeighboursWrong)

end Rows
end Go.Proofs.Qxb6619637a
