/-
  No cell of these rows narrows 'for every input' (looked for: loops, veiled, ifaces, maps, wideKeys, modest, calm, conditions, laid).
  DERIVED. THE GIVEN ROWS OF THIS SEAT. 6 by the template 'for every input the law returns true; each argument reads behind the call as it read before'; 0 by the template 'total and deterministic' (their statements: Qxb6602109aTotals.lean).
  GIVEN WITH THE SEED: the statements are not yours to turn. If you find one false, say at which input.
  Laid BY PROGRAM, IN A SANDBOX (cutbox-rows.mjs): the forced cells as the released guide's own fill.sh prints them over the translation 37fc5eda21205f26… (all of the seat's roots in one cut). By AI agents, Wed Nov 11 2026. No macro, syntax, notation, axiom, sorry.
-/
import Derived.Test.Qxb6602109aChecked
import GoSem.Claim
import GoSem.ClaimJoined
import GoSem.ClaimMapViews
import Derived.JoinedTies
import Derived.KernelRfl
namespace Go.Proofs.Qxb6602109a
/- THE CELL 'sum', in the pinned program and in every row, IS THE sha256 OF THE DUMP (.gsa) THAT Qxb6602109aProg.lean LOADS. Nothing in Lean hashes anything: it is a label: what it is worth is what the hold of that sum in a sandbox is worth. -/
noncomputable def Try.pinned : Pinned := { name := "qxb6602109a", sum := "37fc5eda21205f2635b7a9df889a95db94bb5f3b85e70896bf9bd0dc1c835927", checked := Try.checked }
namespace Rows
def none {H : Type} : Left H := { results := [], args := [] }

/-- 'zzlaws_internal_sbi_b1.FnIsUUIDMatchesGroupModel': WHATEVER THE INPUT: true; the input reads as it did. -/
def fnIsUUIDMatchesGroupModelSpec : ChangeSpec := { name := "fnIsUUIDMatchesGroupModel", fn := fun _ => fun
  | [d] => { results := [.lit (.bool true)], args := [d] }
  | _ => none }
def fnIsUUIDMatchesGroupModelRow : OpenClaim := { program := "qxb6602109a", sum := "37fc5eda21205f2635b7a9df889a95db94bb5f3b85e70896bf9bd0dc1c835927", func := "example.com/waystation/waystation/zzlaws_internal_sbi_b1.FnIsUUIDMatchesGroupModel", spec := "fnIsUUIDMatchesGroupModel", apart := false }
def FnIsUUIDMatchesGroupModelSaid : Prop := fnIsUUIDMatchesGroupModelRow.holds Try.pinned (OpenSpec.ofChange fnIsUUIDMatchesGroupModelSpec)

/-- ITS FALSE NEIGHBOUR: 'it returns false'. Refute it at one input. -/
def fnIsUUIDMatchesGroupModelWrong : ChangeSpec := { name := "fnIsUUIDMatchesGroupModel", fn := fun _ => fun
  | [d] => { results := [.lit (.bool false)], args := [d] }
  | _ => none }
def FnIsUUIDMatchesGroupModelWrongFalsely : Prop := fnIsUUIDMatchesGroupModelRow.holds Try.pinned (OpenSpec.ofChange fnIsUUIDMatchesGroupModelWrong)

/-- 'zzlaws_internal_sbi_b1.FnIsUUIDAcceptsEveryFormatted': WHATEVER THE INPUT: true; the input reads as it did. -/
def fnIsUUIDAcceptsEveryFormattedSpec : ChangeSpec := { name := "fnIsUUIDAcceptsEveryFormatted", fn := fun _ => fun
  | [d1, d2, d3, d4] => { results := [.lit (.bool true)], args := [d1, d2, d3, d4] }
  | _ => none }
def fnIsUUIDAcceptsEveryFormattedRow : OpenClaim := { program := "qxb6602109a", sum := "37fc5eda21205f2635b7a9df889a95db94bb5f3b85e70896bf9bd0dc1c835927", func := "example.com/waystation/waystation/zzlaws_internal_sbi_b1.FnIsUUIDAcceptsEveryFormatted", spec := "fnIsUUIDAcceptsEveryFormatted", apart := false }
def FnIsUUIDAcceptsEveryFormattedSaid : Prop := fnIsUUIDAcceptsEveryFormattedRow.holds Try.pinned (OpenSpec.ofChange fnIsUUIDAcceptsEveryFormattedSpec)

/-- ITS FALSE NEIGHBOUR: 'it returns false'. Refute it at one input. -/
def fnIsUUIDAcceptsEveryFormattedWrong : ChangeSpec := { name := "fnIsUUIDAcceptsEveryFormatted", fn := fun _ => fun
  | [d1, d2, d3, d4] => { results := [.lit (.bool false)], args := [d1, d2, d3, d4] }
  | _ => none }
def FnIsUUIDAcceptsEveryFormattedWrongFalsely : Prop := fnIsUUIDAcceptsEveryFormattedRow.holds Try.pinned (OpenSpec.ofChange fnIsUUIDAcceptsEveryFormattedWrong)

/-- 'zzlaws_internal_sbi_b1.FnIsUUIDCaseBlind': WHATEVER THE INPUT: true; the input reads as it did. -/
def fnIsUUIDCaseBlindSpec : ChangeSpec := { name := "fnIsUUIDCaseBlind", fn := fun _ => fun
  | [d] => { results := [.lit (.bool true)], args := [d] }
  | _ => none }
def fnIsUUIDCaseBlindRow : OpenClaim := { program := "qxb6602109a", sum := "37fc5eda21205f2635b7a9df889a95db94bb5f3b85e70896bf9bd0dc1c835927", func := "example.com/waystation/waystation/zzlaws_internal_sbi_b1.FnIsUUIDCaseBlind", spec := "fnIsUUIDCaseBlind", apart := false }
def FnIsUUIDCaseBlindSaid : Prop := fnIsUUIDCaseBlindRow.holds Try.pinned (OpenSpec.ofChange fnIsUUIDCaseBlindSpec)

/-- ITS FALSE NEIGHBOUR: 'it returns false'. Refute it at one input. -/
def fnIsUUIDCaseBlindWrong : ChangeSpec := { name := "fnIsUUIDCaseBlind", fn := fun _ => fun
  | [d] => { results := [.lit (.bool false)], args := [d] }
  | _ => none }
def FnIsUUIDCaseBlindWrongFalsely : Prop := fnIsUUIDCaseBlindRow.holds Try.pinned (OpenSpec.ofChange fnIsUUIDCaseBlindWrong)

/-- 'zzlaws_internal_sbi_b1.FnSplitAuthorityCharacterised': WHATEVER THE INPUT: true; the input reads as it did. -/
def fnSplitAuthorityCharacterisedSpec : ChangeSpec := { name := "fnSplitAuthorityCharacterised", fn := fun _ => fun
  | [d] => { results := [.lit (.bool true)], args := [d] }
  | _ => none }
def fnSplitAuthorityCharacterisedRow : OpenClaim := { program := "qxb6602109a", sum := "37fc5eda21205f2635b7a9df889a95db94bb5f3b85e70896bf9bd0dc1c835927", func := "example.com/waystation/waystation/zzlaws_internal_sbi_b1.FnSplitAuthorityCharacterised", spec := "fnSplitAuthorityCharacterised", inPlace := ["internal/bytealg.IndexByteString"], apart := false }
def FnSplitAuthorityCharacterisedSaid : Prop := fnSplitAuthorityCharacterisedRow.holds Try.pinned (OpenSpec.ofChange fnSplitAuthorityCharacterisedSpec)

/-- ITS FALSE NEIGHBOUR: 'it returns false'. Refute it at one input. -/
def fnSplitAuthorityCharacterisedWrong : ChangeSpec := { name := "fnSplitAuthorityCharacterised", fn := fun _ => fun
  | [d] => { results := [.lit (.bool false)], args := [d] }
  | _ => none }
def FnSplitAuthorityCharacterisedWrongFalsely : Prop := fnSplitAuthorityCharacterisedRow.holds Try.pinned (OpenSpec.ofChange fnSplitAuthorityCharacterisedWrong)

/-- 'zzlaws_internal_sbi_b1.FnSplitAuthorityHostIsFixedPoint': WHATEVER THE INPUT: true; the input reads as it did. -/
def fnSplitAuthorityHostIsFixedPointSpec : ChangeSpec := { name := "fnSplitAuthorityHostIsFixedPoint", fn := fun _ => fun
  | [d] => { results := [.lit (.bool true)], args := [d] }
  | _ => none }
def fnSplitAuthorityHostIsFixedPointRow : OpenClaim := { program := "qxb6602109a", sum := "37fc5eda21205f2635b7a9df889a95db94bb5f3b85e70896bf9bd0dc1c835927", func := "example.com/waystation/waystation/zzlaws_internal_sbi_b1.FnSplitAuthorityHostIsFixedPoint", spec := "fnSplitAuthorityHostIsFixedPoint", inPlace := ["internal/bytealg.IndexByteString"], apart := false }
def FnSplitAuthorityHostIsFixedPointSaid : Prop := fnSplitAuthorityHostIsFixedPointRow.holds Try.pinned (OpenSpec.ofChange fnSplitAuthorityHostIsFixedPointSpec)

/-- ITS FALSE NEIGHBOUR: 'it returns false'. Refute it at one input. -/
def fnSplitAuthorityHostIsFixedPointWrong : ChangeSpec := { name := "fnSplitAuthorityHostIsFixedPoint", fn := fun _ => fun
  | [d] => { results := [.lit (.bool false)], args := [d] }
  | _ => none }
def FnSplitAuthorityHostIsFixedPointWrongFalsely : Prop := fnSplitAuthorityHostIsFixedPointRow.holds Try.pinned (OpenSpec.ofChange fnSplitAuthorityHostIsFixedPointWrong)

/-- 'zzlaws_internal_sbi_b1.FnSplitAuthorityExtendsPort': WHATEVER THE INPUT: true; the input reads as it did. -/
def fnSplitAuthorityExtendsPortSpec : ChangeSpec := { name := "fnSplitAuthorityExtendsPort", fn := fun _ => fun
  | [d1, d2] => { results := [.lit (.bool true)], args := [d1, d2] }
  | _ => none }
def fnSplitAuthorityExtendsPortRow : OpenClaim := { program := "qxb6602109a", sum := "37fc5eda21205f2635b7a9df889a95db94bb5f3b85e70896bf9bd0dc1c835927", func := "example.com/waystation/waystation/zzlaws_internal_sbi_b1.FnSplitAuthorityExtendsPort", spec := "fnSplitAuthorityExtendsPort", inPlace := ["internal/bytealg.IndexByteString"], apart := false }
def FnSplitAuthorityExtendsPortSaid : Prop := fnSplitAuthorityExtendsPortRow.holds Try.pinned (OpenSpec.ofChange fnSplitAuthorityExtendsPortSpec)

/-- ITS FALSE NEIGHBOUR: 'it returns false'. Refute it at one input. -/
def fnSplitAuthorityExtendsPortWrong : ChangeSpec := { name := "fnSplitAuthorityExtendsPort", fn := fun _ => fun
  | [d1, d2] => { results := [.lit (.bool false)], args := [d1, d2] }
  | _ => none }
def FnSplitAuthorityExtendsPortWrongFalsely : Prop := fnSplitAuthorityExtendsPortRow.holds Try.pinned (OpenSpec.ofChange fnSplitAuthorityExtendsPortWrong)

end Rows
end Go.Proofs.Qxb6602109a
