/-
  No cell of these rows narrows 'for every input' (looked for: loops, veiled, ifaces, maps, wideKeys, modest, calm, conditions, laid).
  DERIVED. THE GIVEN ROWS OF THIS SEAT. 5 by the template 'for every input the law returns true; each argument reads behind the call as it read before'; 0 by the template 'total and deterministic' (their statements: Qxb6602165aTotals.lean).
  GIVEN WITH THE SEED: the statements are not yours to turn. If you find one false, say at which input.
  Laid BY PROGRAM, IN A SANDBOX (cutbox-rows.mjs): the forced cells as the released guide's own fill.sh prints them over the translation 2a9d756305d22bbf… (all of the seat's roots in one cut). By AI agents, Wed Nov 11 2026. No macro, syntax, notation, axiom, sorry.
-/
import Derived.Test.Qxb6602165aChecked
import GoSem.Claim
import GoSem.ClaimJoined
import GoSem.ClaimMapViews
import Derived.JoinedTies
import Derived.KernelRfl
namespace Go.Proofs.Qxb6602165a
/- THE CELL 'sum', in the pinned program and in every row, IS THE sha256 OF THE DUMP (.gsa) THAT Qxb6602165aProg.lean LOADS. Nothing in Lean hashes anything: it is a label: what it is worth is what the hold of that sum in a sandbox is worth. -/
noncomputable def Try.pinned : Pinned := { name := "qxb6602165a", sum := "2a9d756305d22bbf7bf7ebf62b236359df04375095d766a9fdbef0d7f5513c55", checked := Try.checked }
namespace Rows
def none {H : Type} : Left H := { results := [], args := [] }

/-- 'zzlaws_pkg_glob_b1.FnMatchAgreesWithSegmentModel': WHATEVER THE INPUT: true; the input reads as it did. -/
def fnMatchAgreesWithSegmentModelSpec : ChangeSpec := { name := "fnMatchAgreesWithSegmentModel", fn := fun _ => fun
  | [d1, d2] => { results := [.lit (.bool true)], args := [d1, d2] }
  | _ => none }
def fnMatchAgreesWithSegmentModelRow : OpenClaim := { program := "qxb6602165a", sum := "2a9d756305d22bbf7bf7ebf62b236359df04375095d766a9fdbef0d7f5513c55", func := "example.com/cairn/cairn/zzlaws_pkg_glob_b1.FnMatchAgreesWithSegmentModel", spec := "fnMatchAgreesWithSegmentModel", apart := false }
def FnMatchAgreesWithSegmentModelSaid : Prop := fnMatchAgreesWithSegmentModelRow.holds Try.pinned (OpenSpec.ofChange fnMatchAgreesWithSegmentModelSpec)

/-- ITS FALSE NEIGHBOUR: 'it returns false'. Refute it at one input. -/
def fnMatchAgreesWithSegmentModelWrong : ChangeSpec := { name := "fnMatchAgreesWithSegmentModel", fn := fun _ => fun
  | [d1, d2] => { results := [.lit (.bool false)], args := [d1, d2] }
  | _ => none }
def FnMatchAgreesWithSegmentModelWrongFalsely : Prop := fnMatchAgreesWithSegmentModelRow.holds Try.pinned (OpenSpec.ofChange fnMatchAgreesWithSegmentModelWrong)

/-- 'zzlaws_pkg_glob_b1.FnMatchSplitsAtSlash': WHATEVER THE INPUT: true; the input reads as it did. -/
def fnMatchSplitsAtSlashSpec : ChangeSpec := { name := "fnMatchSplitsAtSlash", fn := fun _ => fun
  | [d1, d2, d3] => { results := [.lit (.bool true)], args := [d1, d2, d3] }
  | _ => none }
def fnMatchSplitsAtSlashRow : OpenClaim := { program := "qxb6602165a", sum := "2a9d756305d22bbf7bf7ebf62b236359df04375095d766a9fdbef0d7f5513c55", func := "example.com/cairn/cairn/zzlaws_pkg_glob_b1.FnMatchSplitsAtSlash", spec := "fnMatchSplitsAtSlash", apart := false }
def FnMatchSplitsAtSlashSaid : Prop := fnMatchSplitsAtSlashRow.holds Try.pinned (OpenSpec.ofChange fnMatchSplitsAtSlashSpec)

/-- ITS FALSE NEIGHBOUR: 'it returns false'. Refute it at one input. -/
def fnMatchSplitsAtSlashWrong : ChangeSpec := { name := "fnMatchSplitsAtSlash", fn := fun _ => fun
  | [d1, d2, d3] => { results := [.lit (.bool false)], args := [d1, d2, d3] }
  | _ => none }
def FnMatchSplitsAtSlashWrongFalsely : Prop := fnMatchSplitsAtSlashRow.holds Try.pinned (OpenSpec.ofChange fnMatchSplitsAtSlashWrong)

/-- 'zzlaws_pkg_glob_b1.FnMatchPathLengthBound': WHATEVER THE INPUT: true; the input reads as it did. -/
def fnMatchPathLengthBoundSpec : ChangeSpec := { name := "fnMatchPathLengthBound", fn := fun _ => fun
  | [d1, d2] => { results := [.lit (.bool true)], args := [d1, d2] }
  | _ => none }
def fnMatchPathLengthBoundRow : OpenClaim := { program := "qxb6602165a", sum := "2a9d756305d22bbf7bf7ebf62b236359df04375095d766a9fdbef0d7f5513c55", func := "example.com/cairn/cairn/zzlaws_pkg_glob_b1.FnMatchPathLengthBound", spec := "fnMatchPathLengthBound", apart := false }
def FnMatchPathLengthBoundSaid : Prop := fnMatchPathLengthBoundRow.holds Try.pinned (OpenSpec.ofChange fnMatchPathLengthBoundSpec)

/-- ITS FALSE NEIGHBOUR: 'it returns false'. Refute it at one input. -/
def fnMatchPathLengthBoundWrong : ChangeSpec := { name := "fnMatchPathLengthBound", fn := fun _ => fun
  | [d1, d2] => { results := [.lit (.bool false)], args := [d1, d2] }
  | _ => none }
def FnMatchPathLengthBoundWrongFalsely : Prop := fnMatchPathLengthBoundRow.holds Try.pinned (OpenSpec.ofChange fnMatchPathLengthBoundWrong)

/-- 'zzlaws_pkg_glob_b1.FnMatchNameAgreesWithAutomaton': WHATEVER THE INPUT: true; the input reads as it did. -/
def fnMatchNameAgreesWithAutomatonSpec : ChangeSpec := { name := "fnMatchNameAgreesWithAutomaton", fn := fun _ => fun
  | [d1, d2, d3] => { results := [.lit (.bool true)], args := [d1, d2, d3] }
  | _ => none }
def fnMatchNameAgreesWithAutomatonRow : OpenClaim := { program := "qxb6602165a", sum := "2a9d756305d22bbf7bf7ebf62b236359df04375095d766a9fdbef0d7f5513c55", func := "example.com/cairn/cairn/zzlaws_pkg_glob_b1.FnMatchNameAgreesWithAutomaton", spec := "fnMatchNameAgreesWithAutomaton", apart := false }
def FnMatchNameAgreesWithAutomatonSaid : Prop := fnMatchNameAgreesWithAutomatonRow.holds Try.pinned (OpenSpec.ofChange fnMatchNameAgreesWithAutomatonSpec)

/-- ITS FALSE NEIGHBOUR: 'it returns false'. Refute it at one input. -/
def fnMatchNameAgreesWithAutomatonWrong : ChangeSpec := { name := "fnMatchNameAgreesWithAutomaton", fn := fun _ => fun
  | [d1, d2, d3] => { results := [.lit (.bool false)], args := [d1, d2, d3] }
  | _ => none }
def FnMatchNameAgreesWithAutomatonWrongFalsely : Prop := fnMatchNameAgreesWithAutomatonRow.holds Try.pinned (OpenSpec.ofChange fnMatchNameAgreesWithAutomatonWrong)

/-- 'zzlaws_pkg_glob_b1.FnMatchNameLengthBound': WHATEVER THE INPUT: true; the input reads as it did. -/
def fnMatchNameLengthBoundSpec : ChangeSpec := { name := "fnMatchNameLengthBound", fn := fun _ => fun
  | [d1, d2, d3] => { results := [.lit (.bool true)], args := [d1, d2, d3] }
  | _ => none }
def fnMatchNameLengthBoundRow : OpenClaim := { program := "qxb6602165a", sum := "2a9d756305d22bbf7bf7ebf62b236359df04375095d766a9fdbef0d7f5513c55", func := "example.com/cairn/cairn/zzlaws_pkg_glob_b1.FnMatchNameLengthBound", spec := "fnMatchNameLengthBound", apart := false }
def FnMatchNameLengthBoundSaid : Prop := fnMatchNameLengthBoundRow.holds Try.pinned (OpenSpec.ofChange fnMatchNameLengthBoundSpec)

/-- ITS FALSE NEIGHBOUR: 'it returns false'. Refute it at one input. -/
def fnMatchNameLengthBoundWrong : ChangeSpec := { name := "fnMatchNameLengthBound", fn := fun _ => fun
  | [d1, d2, d3] => { results := [.lit (.bool false)], args := [d1, d2, d3] }
  | _ => none }
def FnMatchNameLengthBoundWrongFalsely : Prop := fnMatchNameLengthBoundRow.holds Try.pinned (OpenSpec.ofChange fnMatchNameLengthBoundWrong)

end Rows
end Go.Proofs.Qxb6602165a
