/-
  No cell of these rows narrows 'for every input' (looked for: loops, veiled, ifaces, maps, wideKeys, modest, calm, conditions, laid).
  DERIVED. THE GIVEN ROWS OF THIS SEAT. 3 by the template 'for every input the law returns true; each argument reads behind the call as it read before'; 0 by the template 'total and deterministic' (their statements: Qxb6602060aTotals.lean).
  GIVEN WITH THE SEED: the statements are not yours to turn. If you find one false, say at which input.
  Laid BY PROGRAM, IN A SANDBOX (cutbox-rows.mjs): the forced cells as the released guide's own fill.sh prints them over the translation 9060ec843794529c… (all of the seat's roots in one cut). By AI agents, Wed Nov 11 2026. No macro, syntax, notation, axiom, sorry.
-/
import Derived.Test.Qxb6602060aChecked
import GoSem.Claim
import GoSem.ClaimJoined
import GoSem.ClaimMapViews
import Derived.JoinedTies
import Derived.KernelRfl
namespace Go.Proofs.Qxb6602060a
/- THE CELL 'sum', in the pinned program and in every row, IS THE sha256 OF THE DUMP (.gsa) THAT Qxb6602060aProg.lean LOADS. Nothing in Lean hashes anything: it is a label: what it is worth is what the hold of that sum in a sandbox is worth. -/
noncomputable def Try.pinned : Pinned := { name := "qxb6602060a", sum := "9060ec843794529c82c6cc6fac8bcde384a542a7eedbce2492a7bacc487b2253", checked := Try.checked }
namespace Rows
def none {H : Type} : Left H := { results := [], args := [] }

/-- 'zzlaws_store_b1.FnAsciiLowerMatchesByteTable': WHATEVER THE INPUT: true; the input reads as it did. -/
def fnAsciiLowerMatchesByteTableSpec : ChangeSpec := { name := "fnAsciiLowerMatchesByteTable", fn := fun _ => fun
  | [d] => { results := [.lit (.bool true)], args := [d] }
  | _ => none }
def fnAsciiLowerMatchesByteTableRow : OpenClaim := { program := "qxb6602060a", sum := "9060ec843794529c82c6cc6fac8bcde384a542a7eedbce2492a7bacc487b2253", func := "example.com/many-doors/many-doors/zzlaws_store_b1.FnAsciiLowerMatchesByteTable", spec := "fnAsciiLowerMatchesByteTable", inPlace := ["internal/abi.NoEscape", "internal/bytealg.MakeNoZero"], unfollowed := true, recurses := true, apart := false }
def FnAsciiLowerMatchesByteTableSaid : Prop := fnAsciiLowerMatchesByteTableRow.holds Try.pinned (OpenSpec.ofChange fnAsciiLowerMatchesByteTableSpec)

/-- ITS FALSE NEIGHBOUR: 'it returns false'. Refute it at one input. -/
def fnAsciiLowerMatchesByteTableWrong : ChangeSpec := { name := "fnAsciiLowerMatchesByteTable", fn := fun _ => fun
  | [d] => { results := [.lit (.bool false)], args := [d] }
  | _ => none }
def FnAsciiLowerMatchesByteTableWrongFalsely : Prop := fnAsciiLowerMatchesByteTableRow.holds Try.pinned (OpenSpec.ofChange fnAsciiLowerMatchesByteTableWrong)

/-- 'zzlaws_store_b1.FnAsciiLowerEqualExactlyWhenFoldEqual': WHATEVER THE INPUT: true; the input reads as it did. -/
def fnAsciiLowerEqualExactlyWhenFoldEqualSpec : ChangeSpec := { name := "fnAsciiLowerEqualExactlyWhenFoldEqual", fn := fun _ => fun
  | [d1, d2] => { results := [.lit (.bool true)], args := [d1, d2] }
  | _ => none }
def fnAsciiLowerEqualExactlyWhenFoldEqualRow : OpenClaim := { program := "qxb6602060a", sum := "9060ec843794529c82c6cc6fac8bcde384a542a7eedbce2492a7bacc487b2253", func := "example.com/many-doors/many-doors/zzlaws_store_b1.FnAsciiLowerEqualExactlyWhenFoldEqual", spec := "fnAsciiLowerEqualExactlyWhenFoldEqual", inPlace := ["internal/abi.NoEscape", "internal/bytealg.MakeNoZero"], unfollowed := true, recurses := true, apart := false }
def FnAsciiLowerEqualExactlyWhenFoldEqualSaid : Prop := fnAsciiLowerEqualExactlyWhenFoldEqualRow.holds Try.pinned (OpenSpec.ofChange fnAsciiLowerEqualExactlyWhenFoldEqualSpec)

/-- ITS FALSE NEIGHBOUR: 'it returns false'. Refute it at one input. -/
def fnAsciiLowerEqualExactlyWhenFoldEqualWrong : ChangeSpec := { name := "fnAsciiLowerEqualExactlyWhenFoldEqual", fn := fun _ => fun
  | [d1, d2] => { results := [.lit (.bool false)], args := [d1, d2] }
  | _ => none }
def FnAsciiLowerEqualExactlyWhenFoldEqualWrongFalsely : Prop := fnAsciiLowerEqualExactlyWhenFoldEqualRow.holds Try.pinned (OpenSpec.ofChange fnAsciiLowerEqualExactlyWhenFoldEqualWrong)

/-- 'zzlaws_store_b1.FnAsciiLowerIdempotentAndFixedPoints': WHATEVER THE INPUT: true; the input reads as it did. -/
def fnAsciiLowerIdempotentAndFixedPointsSpec : ChangeSpec := { name := "fnAsciiLowerIdempotentAndFixedPoints", fn := fun _ => fun
  | [d] => { results := [.lit (.bool true)], args := [d] }
  | _ => none }
def fnAsciiLowerIdempotentAndFixedPointsRow : OpenClaim := { program := "qxb6602060a", sum := "9060ec843794529c82c6cc6fac8bcde384a542a7eedbce2492a7bacc487b2253", func := "example.com/many-doors/many-doors/zzlaws_store_b1.FnAsciiLowerIdempotentAndFixedPoints", spec := "fnAsciiLowerIdempotentAndFixedPoints", inPlace := ["internal/abi.NoEscape", "internal/bytealg.MakeNoZero"], unfollowed := true, recurses := true, apart := false }
def FnAsciiLowerIdempotentAndFixedPointsSaid : Prop := fnAsciiLowerIdempotentAndFixedPointsRow.holds Try.pinned (OpenSpec.ofChange fnAsciiLowerIdempotentAndFixedPointsSpec)

/-- ITS FALSE NEIGHBOUR: 'it returns false'. Refute it at one input. -/
def fnAsciiLowerIdempotentAndFixedPointsWrong : ChangeSpec := { name := "fnAsciiLowerIdempotentAndFixedPoints", fn := fun _ => fun
  | [d] => { results := [.lit (.bool false)], args := [d] }
  | _ => none }
def FnAsciiLowerIdempotentAndFixedPointsWrongFalsely : Prop := fnAsciiLowerIdempotentAndFixedPointsRow.holds Try.pinned (OpenSpec.ofChange fnAsciiLowerIdempotentAndFixedPointsWrong)

end Rows
end Go.Proofs.Qxb6602060a
