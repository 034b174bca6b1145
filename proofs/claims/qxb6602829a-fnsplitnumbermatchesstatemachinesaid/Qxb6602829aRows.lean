/-
  No cell of these rows narrows 'for every input' (looked for: loops, veiled, ifaces, maps, wideKeys, modest, calm, conditions, laid).
  DERIVED. THE GIVEN ROWS OF THIS SEAT. 5 by the template 'for every input the law returns true; each argument reads behind the call as it read before'; 0 by the template 'total and deterministic' (their statements: Qxb6602829aTotals.lean).
  GIVEN WITH THE SEED: the statements are not yours to turn. If you find one false, say at which input.
  Laid BY PROGRAM, IN A SANDBOX (cutbox-rows.mjs): the forced cells as the released guide's own fill.sh prints them over the translation 8ea0ff55962cd138… (all of the seat's roots in one cut). By AI agents, Wed Nov 11 2026. No macro, syntax, notation, axiom, sorry.
-/
import Derived.Test.Qxb6602829aChecked
import GoSem.Claim
import GoSem.ClaimJoined
import GoSem.ClaimMapViews
import Derived.JoinedTies
import Derived.KernelRfl
namespace Go.Proofs.Qxb6602829a
/- THE CELL 'sum', in the pinned program and in every row, IS THE sha256 OF THE DUMP (.gsa) THAT Qxb6602829aProg.lean LOADS. Nothing in Lean hashes anything: it is a label: what it is worth is what the hold of that sum in a sandbox is worth. -/
noncomputable def Try.pinned : Pinned := { name := "qxb6602829a", sum := "8ea0ff55962cd13886c012c77b869d7ef77eaf705f9a20913c41e01584063c23", checked := Try.checked }
namespace Rows
def none {H : Type} : Left H := { results := [], args := [] }

/-- 'zzlaws_pkg_amount_b1.FnSplitNumberMatchesStateMachine': WHATEVER THE INPUT: true; the input reads as it did. -/
def fnSplitNumberMatchesStateMachineSpec : ChangeSpec := { name := "fnSplitNumberMatchesStateMachine", fn := fun _ => fun
  | [d] => { results := [.lit (.bool true)], args := [d] }
  | _ => none }
def fnSplitNumberMatchesStateMachineRow : OpenClaim := { program := "qxb6602829a", sum := "8ea0ff55962cd13886c012c77b869d7ef77eaf705f9a20913c41e01584063c23", func := "example.com/strikewell/strikewell/zzlaws_pkg_amount_b1.FnSplitNumberMatchesStateMachine", spec := "fnSplitNumberMatchesStateMachine", apart := false }
def FnSplitNumberMatchesStateMachineSaid : Prop := fnSplitNumberMatchesStateMachineRow.holds Try.pinned (OpenSpec.ofChange fnSplitNumberMatchesStateMachineSpec)

/-- ITS FALSE NEIGHBOUR: 'it returns false'. Refute it at one input. -/
def fnSplitNumberMatchesStateMachineWrong : ChangeSpec := { name := "fnSplitNumberMatchesStateMachine", fn := fun _ => fun
  | [d] => { results := [.lit (.bool false)], args := [d] }
  | _ => none }
def FnSplitNumberMatchesStateMachineWrongFalsely : Prop := fnSplitNumberMatchesStateMachineRow.holds Try.pinned (OpenSpec.ofChange fnSplitNumberMatchesStateMachineWrong)

/-- 'zzlaws_pkg_amount_b1.FnSplitNumberCanonicalRoundTrip': WHATEVER THE INPUT: true; the input reads as it did. -/
def fnSplitNumberCanonicalRoundTripSpec : ChangeSpec := { name := "fnSplitNumberCanonicalRoundTrip", fn := fun _ => fun
  | [d] => { results := [.lit (.bool true)], args := [d] }
  | _ => none }
def fnSplitNumberCanonicalRoundTripRow : OpenClaim := { program := "qxb6602829a", sum := "8ea0ff55962cd13886c012c77b869d7ef77eaf705f9a20913c41e01584063c23", func := "example.com/strikewell/strikewell/zzlaws_pkg_amount_b1.FnSplitNumberCanonicalRoundTrip", spec := "fnSplitNumberCanonicalRoundTrip", apart := false }
def FnSplitNumberCanonicalRoundTripSaid : Prop := fnSplitNumberCanonicalRoundTripRow.holds Try.pinned (OpenSpec.ofChange fnSplitNumberCanonicalRoundTripSpec)

/-- ITS FALSE NEIGHBOUR: 'it returns false'. Refute it at one input. -/
def fnSplitNumberCanonicalRoundTripWrong : ChangeSpec := { name := "fnSplitNumberCanonicalRoundTrip", fn := fun _ => fun
  | [d] => { results := [.lit (.bool false)], args := [d] }
  | _ => none }
def FnSplitNumberCanonicalRoundTripWrongFalsely : Prop := fnSplitNumberCanonicalRoundTripRow.holds Try.pinned (OpenSpec.ofChange fnSplitNumberCanonicalRoundTripWrong)

/-- 'zzlaws_pkg_amount_b1.FnUint128CmpMatchesSubtraction': WHATEVER THE INPUT: true; the input reads as it did. -/
def fnUint128CmpMatchesSubtractionSpec : ChangeSpec := { name := "fnUint128CmpMatchesSubtraction", fn := fun _ => fun
  | [d1, d2, d3, d4] => { results := [.lit (.bool true)], args := [d1, d2, d3, d4] }
  | _ => none }
def fnUint128CmpMatchesSubtractionRow : OpenClaim := { program := "qxb6602829a", sum := "8ea0ff55962cd13886c012c77b869d7ef77eaf705f9a20913c41e01584063c23", func := "example.com/strikewell/strikewell/zzlaws_pkg_amount_b1.FnUint128CmpMatchesSubtraction", spec := "fnUint128CmpMatchesSubtraction", apart := false }
def FnUint128CmpMatchesSubtractionSaid : Prop := fnUint128CmpMatchesSubtractionRow.holds Try.pinned (OpenSpec.ofChange fnUint128CmpMatchesSubtractionSpec)

/-- ITS FALSE NEIGHBOUR: 'it returns false'. Refute it at one input. -/
def fnUint128CmpMatchesSubtractionWrong : ChangeSpec := { name := "fnUint128CmpMatchesSubtraction", fn := fun _ => fun
  | [d1, d2, d3, d4] => { results := [.lit (.bool false)], args := [d1, d2, d3, d4] }
  | _ => none }
def FnUint128CmpMatchesSubtractionWrongFalsely : Prop := fnUint128CmpMatchesSubtractionRow.holds Try.pinned (OpenSpec.ofChange fnUint128CmpMatchesSubtractionWrong)

/-- 'zzlaws_pkg_amount_b1.FnUint128CmpAntisymmetricReflexive': WHATEVER THE INPUT: true; the input reads as it did. -/
def fnUint128CmpAntisymmetricReflexiveSpec : ChangeSpec := { name := "fnUint128CmpAntisymmetricReflexive", fn := fun _ => fun
  | [d1, d2, d3, d4] => { results := [.lit (.bool true)], args := [d1, d2, d3, d4] }
  | _ => none }
def fnUint128CmpAntisymmetricReflexiveRow : OpenClaim := { program := "qxb6602829a", sum := "8ea0ff55962cd13886c012c77b869d7ef77eaf705f9a20913c41e01584063c23", func := "example.com/strikewell/strikewell/zzlaws_pkg_amount_b1.FnUint128CmpAntisymmetricReflexive", spec := "fnUint128CmpAntisymmetricReflexive", apart := false }
def FnUint128CmpAntisymmetricReflexiveSaid : Prop := fnUint128CmpAntisymmetricReflexiveRow.holds Try.pinned (OpenSpec.ofChange fnUint128CmpAntisymmetricReflexiveSpec)

/-- ITS FALSE NEIGHBOUR: 'it returns false'. Refute it at one input. -/
def fnUint128CmpAntisymmetricReflexiveWrong : ChangeSpec := { name := "fnUint128CmpAntisymmetricReflexive", fn := fun _ => fun
  | [d1, d2, d3, d4] => { results := [.lit (.bool false)], args := [d1, d2, d3, d4] }
  | _ => none }
def FnUint128CmpAntisymmetricReflexiveWrongFalsely : Prop := fnUint128CmpAntisymmetricReflexiveRow.holds Try.pinned (OpenSpec.ofChange fnUint128CmpAntisymmetricReflexiveWrong)

/-- 'zzlaws_pkg_amount_b1.FnUint128CmpTransitive': WHATEVER THE INPUT: true; the input reads as it did. -/
def fnUint128CmpTransitiveSpec : ChangeSpec := { name := "fnUint128CmpTransitive", fn := fun _ => fun
  | [d1, d2, d3, d4, d5, d6] => { results := [.lit (.bool true)], args := [d1, d2, d3, d4, d5, d6] }
  | _ => none }
def fnUint128CmpTransitiveRow : OpenClaim := { program := "qxb6602829a", sum := "8ea0ff55962cd13886c012c77b869d7ef77eaf705f9a20913c41e01584063c23", func := "example.com/strikewell/strikewell/zzlaws_pkg_amount_b1.FnUint128CmpTransitive", spec := "fnUint128CmpTransitive", apart := false }
def FnUint128CmpTransitiveSaid : Prop := fnUint128CmpTransitiveRow.holds Try.pinned (OpenSpec.ofChange fnUint128CmpTransitiveSpec)

/-- ITS FALSE NEIGHBOUR: 'it returns false'. Refute it at one input. -/
def fnUint128CmpTransitiveWrong : ChangeSpec := { name := "fnUint128CmpTransitive", fn := fun _ => fun
  | [d1, d2, d3, d4, d5, d6] => { results := [.lit (.bool false)], args := [d1, d2, d3, d4, d5, d6] }
  | _ => none }
def FnUint128CmpTransitiveWrongFalsely : Prop := fnUint128CmpTransitiveRow.holds Try.pinned (OpenSpec.ofChange fnUint128CmpTransitiveWrong)

end Rows
end Go.Proofs.Qxb6602829a
