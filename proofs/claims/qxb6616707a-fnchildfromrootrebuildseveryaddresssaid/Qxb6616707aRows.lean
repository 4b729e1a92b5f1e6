/-
  No cell of these rows narrows 'for every input' (looked for: loops, veiled, ifaces, maps, wideKeys, modest, calm, conditions, laid).
  DERIVED. THE GIVEN ROWS OF THIS SEAT. 2 by the template 'for every input the law returns true; each argument reads behind the call as it read before'; 0 by the template 'total and deterministic' (their statements: Qxb6616707aTotals.lean).
  GIVEN WITH THE SEED: the statements are not yours to turn. If you find one false, say at which input.
  Laid BY PROGRAM, IN A SANDBOX (cutbox-rows.mjs): the forced cells as the released guide's own fill.sh prints them over the translation d8632e09ffbaf999… (all of the seat's roots in one cut). By AI agents, Wed Nov 11 2026. No macro, syntax, notation, axiom, sorry.
-/
import Derived.Test.Qxb6616707aChecked
import GoSem.Claim
import GoSem.ClaimJoined
import GoSem.ClaimMapViews
import Derived.JoinedTies
import Derived.KernelRfl
namespace Go.Proofs.Qxb6616707a
/- THE CELL 'sum', in the pinned program and in every row, IS THE sha256 OF THE DUMP (.gsa) THAT Qxb6616707aProg.lean LOADS. Nothing in Lean hashes anything: it is a label: what it is worth is what the hold of that sum in a sandbox is worth. -/
noncomputable def Try.pinned : Pinned := { name := "qxb6616707a", sum := "d8632e09ffbaf9993a79b695388d98a462aa2c34ebb2cacde6246db973bc926c", checked := Try.checked }
namespace Rows
def none {H : Type} : Left H := { results := [], args := [] }

/-- 'zzlaws_pkg_addrs_b1.FnProviderStringSplitsBackIntoItsPartsAndIsInjective': WHATEVER THE INPUT: true; the input reads as it did. -/
def fnProviderStringSplitsBackIntoItsPartsAndIsInjectiveSpec : ChangeSpec := { name := "fnProviderStringSplitsBackIntoItsPartsAndIsInjective", fn := fun _ => fun
  | [d1, d2, d3, d4, d5, d6] => { results := [.lit (.bool true)], args := [d1, d2, d3, d4, d5, d6] }
  | _ => none }
def fnProviderStringSplitsBackIntoItsPartsAndIsInjectiveRow : OpenClaim := { program := "qxb6616707a", sum := "d8632e09ffbaf9993a79b695388d98a462aa2c34ebb2cacde6246db973bc926c", func := "example.com/unroll/unroll/zzlaws_pkg_addrs_b1.FnProviderStringSplitsBackIntoItsPartsAndIsInjective", spec := "fnProviderStringSplitsBackIntoItsPartsAndIsInjective", apart := false }
def FnProviderStringSplitsBackIntoItsPartsAndIsInjectiveSaid : Prop := fnProviderStringSplitsBackIntoItsPartsAndIsInjectiveRow.holds Try.pinned (OpenSpec.ofChange fnProviderStringSplitsBackIntoItsPartsAndIsInjectiveSpec)

/-- ITS FALSE NEIGHBOUR: 'it returns false'. Refute it at one input. -/
def fnProviderStringSplitsBackIntoItsPartsAndIsInjectiveWrong : ChangeSpec := { name := "fnProviderStringSplitsBackIntoItsPartsAndIsInjective", fn := fun _ => fun
  | [d1, d2, d3, d4, d5, d6] => { results := [.lit (.bool false)], args := [d1, d2, d3, d4, d5, d6] }
  | _ => none }
def FnProviderStringSplitsBackIntoItsPartsAndIsInjectiveWrongFalsely : Prop := fnProviderStringSplitsBackIntoItsPartsAndIsInjectiveRow.holds Try.pinned (OpenSpec.ofChange fnProviderStringSplitsBackIntoItsPartsAndIsInjectiveWrong)

/-- 'zzlaws_pkg_addrs_b1.FnChildFromRootRebuildsEveryAddress': WHATEVER THE INPUT: true; the input reads as it did. -/
def fnChildFromRootRebuildsEveryAddressSpec : ChangeSpec := { name := "fnChildFromRootRebuildsEveryAddress", fn := fun _ => fun
  | [d] => { results := [.lit (.bool true)], args := [d] }
  | _ => none }
def fnChildFromRootRebuildsEveryAddressRow : OpenClaim := { program := "qxb6616707a", sum := "d8632e09ffbaf9993a79b695388d98a462aa2c34ebb2cacde6246db973bc926c", func := "example.com/unroll/unroll/zzlaws_pkg_addrs_b1.FnChildFromRootRebuildsEveryAddress", spec := "fnChildFromRootRebuildsEveryAddress", apart := false }
def FnChildFromRootRebuildsEveryAddressSaid : Prop := fnChildFromRootRebuildsEveryAddressRow.holds Try.pinned (OpenSpec.ofChange fnChildFromRootRebuildsEveryAddressSpec)

/-- ITS FALSE NEIGHBOUR: 'it returns false'. Refute it at one input. -/
def fnChildFromRootRebuildsEveryAddressWrong : ChangeSpec := { name := "fnChildFromRootRebuildsEveryAddress", fn := fun _ => fun
  | [d] => { results := [.lit (.bool false)], args := [d] }
  | _ => none }
def FnChildFromRootRebuildsEveryAddressWrongFalsely : Prop := fnChildFromRootRebuildsEveryAddressRow.holds Try.pinned (OpenSpec.ofChange fnChildFromRootRebuildsEveryAddressWrong)

end Rows
end Go.Proofs.Qxb6616707a
