/-
  No cell of these rows narrows 'for every input' (looked for: loops, veiled, ifaces, maps, wideKeys, modest, calm, conditions, laid).
  DERIVED. THE GIVEN ROWS OF THIS SEAT. 4 by the template 'for every input the law returns true; each argument reads behind the call as it read before'; 0 by the template 'total and deterministic' (their statements: Qxb6617200aTotals.lean).
  GIVEN WITH THE SEED: the statements are not yours to turn. If you find one false, say at which input.
  Laid BY PROGRAM, IN A SANDBOX (cutbox-rows.mjs): the forced cells as the released guide's own fill.sh prints them over the translation 72ec0263bb270d9f… (all of the seat's roots in one cut). By AI agents, Wed Nov 11 2026. No macro, syntax, notation, axiom, sorry.
-/
import Derived.Test.Qxb6617200aChecked
import GoSem.Claim
import GoSem.ClaimJoined
import GoSem.ClaimMapViews
import Derived.JoinedTies
import Derived.KernelRfl
namespace Go.Proofs.Qxb6617200a
/- THE CELL 'sum', in the pinned program and in every row, IS THE sha256 OF THE DUMP (.gsa) THAT Qxb6617200aProg.lean LOADS. Nothing in Lean hashes anything: it is a label: what it is worth is what the hold of that sum in a sandbox is worth. -/
noncomputable def Try.pinned : Pinned := { name := "qxb6617200a", sum := "72ec0263bb270d9ff47faf75e9a95340bcccdf66141f72d9d3f37b114ffb14e8", checked := Try.checked }
namespace Rows
def none {H : Type} : Left H := { results := [], args := [] }

/-- 'zzlaws_internal_mesh_b1.FnValidNameDashNumberSuffix': WHATEVER THE INPUT: true; the input reads as it did. -/
def fnValidNameDashNumberSuffixSpec : ChangeSpec := { name := "fnValidNameDashNumberSuffix", fn := fun _ => fun
  | [d1, d2] => { results := [.lit (.bool true)], args := [d1, d2] }
  | _ => none }
def fnValidNameDashNumberSuffixRow : OpenClaim := { program := "qxb6617200a", sum := "72ec0263bb270d9ff47faf75e9a95340bcccdf66141f72d9d3f37b114ffb14e8", func := "example.com/weftmesh/weftmesh/zzlaws_internal_mesh_b1.FnValidNameDashNumberSuffix", spec := "fnValidNameDashNumberSuffix", apart := false }
def FnValidNameDashNumberSuffixSaid : Prop := fnValidNameDashNumberSuffixRow.holds Try.pinned (OpenSpec.ofChange fnValidNameDashNumberSuffixSpec)

/-- ITS FALSE NEIGHBOUR: 'it returns false'. Refute it at one input. -/
def fnValidNameDashNumberSuffixWrong : ChangeSpec := { name := "fnValidNameDashNumberSuffix", fn := fun _ => fun
  | [d1, d2] => { results := [.lit (.bool false)], args := [d1, d2] }
  | _ => none }
def FnValidNameDashNumberSuffixWrongFalsely : Prop := fnValidNameDashNumberSuffixRow.holds Try.pinned (OpenSpec.ofChange fnValidNameDashNumberSuffixWrong)

/-- 'zzlaws_internal_mesh_b1.FnValidNameIsShortPlainInstanceID': WHATEVER THE INPUT: true; the input reads as it did. -/
def fnValidNameIsShortPlainInstanceIDSpec : ChangeSpec := { name := "fnValidNameIsShortPlainInstanceID", fn := fun _ => fun
  | [d1, d2] => { results := [.lit (.bool true)], args := [d1, d2] }
  | _ => none }
def fnValidNameIsShortPlainInstanceIDRow : OpenClaim := { program := "qxb6617200a", sum := "72ec0263bb270d9ff47faf75e9a95340bcccdf66141f72d9d3f37b114ffb14e8", func := "example.com/weftmesh/weftmesh/zzlaws_internal_mesh_b1.FnValidNameIsShortPlainInstanceID", spec := "fnValidNameIsShortPlainInstanceID", apart := false }
def FnValidNameIsShortPlainInstanceIDSaid : Prop := fnValidNameIsShortPlainInstanceIDRow.holds Try.pinned (OpenSpec.ofChange fnValidNameIsShortPlainInstanceIDSpec)

/-- ITS FALSE NEIGHBOUR: 'it returns false'. Refute it at one input. -/
def fnValidNameIsShortPlainInstanceIDWrong : ChangeSpec := { name := "fnValidNameIsShortPlainInstanceID", fn := fun _ => fun
  | [d1, d2] => { results := [.lit (.bool false)], args := [d1, d2] }
  | _ => none }
def FnValidNameIsShortPlainInstanceIDWrongFalsely : Prop := fnValidNameIsShortPlainInstanceIDRow.holds Try.pinned (OpenSpec.ofChange fnValidNameIsShortPlainInstanceIDWrong)

/-- 'zzlaws_internal_mesh_b1.FnValidInstanceIDSeparatorNumberSuffix': WHATEVER THE INPUT: true; the input reads as it did. -/
def fnValidInstanceIDSeparatorNumberSuffixSpec : ChangeSpec := { name := "fnValidInstanceIDSeparatorNumberSuffix", fn := fun _ => fun
  | [d1, d2] => { results := [.lit (.bool true)], args := [d1, d2] }
  | _ => none }
def fnValidInstanceIDSeparatorNumberSuffixRow : OpenClaim := { program := "qxb6617200a", sum := "72ec0263bb270d9ff47faf75e9a95340bcccdf66141f72d9d3f37b114ffb14e8", func := "example.com/weftmesh/weftmesh/zzlaws_internal_mesh_b1.FnValidInstanceIDSeparatorNumberSuffix", spec := "fnValidInstanceIDSeparatorNumberSuffix", apart := false }
def FnValidInstanceIDSeparatorNumberSuffixSaid : Prop := fnValidInstanceIDSeparatorNumberSuffixRow.holds Try.pinned (OpenSpec.ofChange fnValidInstanceIDSeparatorNumberSuffixSpec)

/-- ITS FALSE NEIGHBOUR: 'it returns false'. Refute it at one input. -/
def fnValidInstanceIDSeparatorNumberSuffixWrong : ChangeSpec := { name := "fnValidInstanceIDSeparatorNumberSuffix", fn := fun _ => fun
  | [d1, d2] => { results := [.lit (.bool false)], args := [d1, d2] }
  | _ => none }
def FnValidInstanceIDSeparatorNumberSuffixWrongFalsely : Prop := fnValidInstanceIDSeparatorNumberSuffixRow.holds Try.pinned (OpenSpec.ofChange fnValidInstanceIDSeparatorNumberSuffixWrong)

/-- 'zzlaws_internal_mesh_b1.FnValidInstanceIDDecidedPieceByPiece': WHATEVER THE INPUT: true; the input reads as it did. -/
def fnValidInstanceIDDecidedPieceByPieceSpec : ChangeSpec := { name := "fnValidInstanceIDDecidedPieceByPiece", fn := fun _ => fun
  | [d1, d2, d3] => { results := [.lit (.bool true)], args := [d1, d2, d3] }
  | _ => none }
def fnValidInstanceIDDecidedPieceByPieceRow : OpenClaim := { program := "qxb6617200a", sum := "72ec0263bb270d9ff47faf75e9a95340bcccdf66141f72d9d3f37b114ffb14e8", func := "example.com/weftmesh/weftmesh/zzlaws_internal_mesh_b1.FnValidInstanceIDDecidedPieceByPiece", spec := "fnValidInstanceIDDecidedPieceByPiece", apart := false }
def FnValidInstanceIDDecidedPieceByPieceSaid : Prop := fnValidInstanceIDDecidedPieceByPieceRow.holds Try.pinned (OpenSpec.ofChange fnValidInstanceIDDecidedPieceByPieceSpec)

/-- ITS FALSE NEIGHBOUR: 'it returns false'. Refute it at one input. -/
def fnValidInstanceIDDecidedPieceByPieceWrong : ChangeSpec := { name := "fnValidInstanceIDDecidedPieceByPiece", fn := fun _ => fun
  | [d1, d2, d3] => { results := [.lit (.bool false)], args := [d1, d2, d3] }
  | _ => none }
def FnValidInstanceIDDecidedPieceByPieceWrongFalsely : Prop := fnValidInstanceIDDecidedPieceByPieceRow.holds Try.pinned (OpenSpec.ofChange fnValidInstanceIDDecidedPieceByPieceWrong)

end Rows
end Go.Proofs.Qxb6617200a
