/-
  No cell of these rows narrows 'for every input' (looked for: loops, veiled, ifaces, maps, wideKeys, modest, calm, conditions, laid).
  DERIVED. THE GIVEN ROWS OF THIS SEAT. 6 by the template 'for every input the law returns true; each argument reads behind the call as it read before'; 0 by the template 'total and deterministic' (their statements: Qxb6602077aTotals.lean).
  GIVEN WITH THE SEED: the statements are not yours to turn. If you find one false, say at which input.
  Laid BY PROGRAM, IN A SANDBOX (cutbox-rows.mjs): the forced cells as the released guide's own fill.sh prints them over the translation ea74eaa369815ee3… (all of the seat's roots in one cut). By AI agents, Wed Nov 11 2026. No macro, syntax, notation, axiom, sorry.
-/
import Derived.Test.Qxb6602077aChecked
import GoSem.Claim
import GoSem.ClaimJoined
import GoSem.ClaimMapViews
import Derived.JoinedTies
import Derived.KernelRfl
namespace Go.Proofs.Qxb6602077a
/- THE CELL 'sum', in the pinned program and in every row, IS THE sha256 OF THE DUMP (.gsa) THAT Qxb6602077aProg.lean LOADS. Nothing in Lean hashes anything: it is a label: what it is worth is what the hold of that sum in a sandbox is worth. -/
noncomputable def Try.pinned : Pinned := { name := "qxb6602077a", sum := "ea74eaa369815ee3ce963a685812fdb8ccd401d5c11ad5d8c007e46b67dc21a0", checked := Try.checked }
namespace Rows
def none {H : Type} : Left H := { results := [], args := [] }

/-- 'zzlaws_internal_gitremote_b1.FnSetMatchesMergeModel': WHATEVER THE INPUT: true; the input reads as it did. -/
def fnSetMatchesMergeModelSpec : ChangeSpec := { name := "fnSetMatchesMergeModel", fn := fun _ => fun
  | [d1, d2, d3, d4, d5] => { results := [.lit (.bool true)], args := [d1, d2, d3, d4, d5] }
  | _ => none }
def fnSetMatchesMergeModelRow : OpenClaim := { program := "qxb6602077a", sum := "ea74eaa369815ee3ce963a685812fdb8ccd401d5c11ad5d8c007e46b67dc21a0", func := "example.com/murkle/murkle/zzlaws_internal_gitremote_b1.FnSetMatchesMergeModel", spec := "fnSetMatchesMergeModel", inPlace := ["internal/bytealg.abigen_runtime_cmpstring", "slices.overlaps[example.com/murkle/murkle/internal/gitremote.ref]"], unfollowed := true, recurses := true, apart := false }
def FnSetMatchesMergeModelSaid : Prop := fnSetMatchesMergeModelRow.holds Try.pinned (OpenSpec.ofChange fnSetMatchesMergeModelSpec)

/-- ITS FALSE NEIGHBOUR: 'it returns false'. Refute it at one input. -/
def fnSetMatchesMergeModelWrong : ChangeSpec := { name := "fnSetMatchesMergeModel", fn := fun _ => fun
  | [d1, d2, d3, d4, d5] => { results := [.lit (.bool false)], args := [d1, d2, d3, d4, d5] }
  | _ => none }
def FnSetMatchesMergeModelWrongFalsely : Prop := fnSetMatchesMergeModelRow.holds Try.pinned (OpenSpec.ofChange fnSetMatchesMergeModelWrong)

/-- 'zzlaws_internal_gitremote_b1.FnSetIdempotent': WHATEVER THE INPUT: true; the input reads as it did. -/
def fnSetIdempotentSpec : ChangeSpec := { name := "fnSetIdempotent", fn := fun _ => fun
  | [d1, d2, d3, d4, d5] => { results := [.lit (.bool true)], args := [d1, d2, d3, d4, d5] }
  | _ => none }
def fnSetIdempotentRow : OpenClaim := { program := "qxb6602077a", sum := "ea74eaa369815ee3ce963a685812fdb8ccd401d5c11ad5d8c007e46b67dc21a0", func := "example.com/murkle/murkle/zzlaws_internal_gitremote_b1.FnSetIdempotent", spec := "fnSetIdempotent", inPlace := ["internal/bytealg.abigen_runtime_cmpstring", "slices.overlaps[example.com/murkle/murkle/internal/gitremote.ref]"], unfollowed := true, recurses := true, apart := false }
def FnSetIdempotentSaid : Prop := fnSetIdempotentRow.holds Try.pinned (OpenSpec.ofChange fnSetIdempotentSpec)

/-- ITS FALSE NEIGHBOUR: 'it returns false'. Refute it at one input. -/
def fnSetIdempotentWrong : ChangeSpec := { name := "fnSetIdempotent", fn := fun _ => fun
  | [d1, d2, d3, d4, d5] => { results := [.lit (.bool false)], args := [d1, d2, d3, d4, d5] }
  | _ => none }
def FnSetIdempotentWrongFalsely : Prop := fnSetIdempotentRow.holds Try.pinned (OpenSpec.ofChange fnSetIdempotentWrong)

/-- 'zzlaws_internal_gitremote_b1.FnPickHeadMatchesSpec': WHATEVER THE INPUT: true; the input reads as it did. -/
def fnPickHeadMatchesSpecSpec : ChangeSpec := { name := "fnPickHeadMatchesSpec", fn := fun _ => fun
  | [d1, d2, d3] => { results := [.lit (.bool true)], args := [d1, d2, d3] }
  | _ => none }
def fnPickHeadMatchesSpecRow : OpenClaim := { program := "qxb6602077a", sum := "ea74eaa369815ee3ce963a685812fdb8ccd401d5c11ad5d8c007e46b67dc21a0", func := "example.com/murkle/murkle/zzlaws_internal_gitremote_b1.FnPickHeadMatchesSpec", spec := "fnPickHeadMatchesSpec", inPlace := ["internal/bytealg.abigen_runtime_cmpstring"], unfollowed := true, recurses := true, apart := false }
def FnPickHeadMatchesSpecSaid : Prop := fnPickHeadMatchesSpecRow.holds Try.pinned (OpenSpec.ofChange fnPickHeadMatchesSpecSpec)

/-- ITS FALSE NEIGHBOUR: 'it returns false'. Refute it at one input. -/
def fnPickHeadMatchesSpecWrong : ChangeSpec := { name := "fnPickHeadMatchesSpec", fn := fun _ => fun
  | [d1, d2, d3] => { results := [.lit (.bool false)], args := [d1, d2, d3] }
  | _ => none }
def FnPickHeadMatchesSpecWrongFalsely : Prop := fnPickHeadMatchesSpecRow.holds Try.pinned (OpenSpec.ofChange fnPickHeadMatchesSpecWrong)

/-- 'zzlaws_internal_gitremote_b1.FnPickHeadIdempotent': WHATEVER THE INPUT: true; the input reads as it did. -/
def fnPickHeadIdempotentSpec : ChangeSpec := { name := "fnPickHeadIdempotent", fn := fun _ => fun
  | [d1, d2, d3] => { results := [.lit (.bool true)], args := [d1, d2, d3] }
  | _ => none }
def fnPickHeadIdempotentRow : OpenClaim := { program := "qxb6602077a", sum := "ea74eaa369815ee3ce963a685812fdb8ccd401d5c11ad5d8c007e46b67dc21a0", func := "example.com/murkle/murkle/zzlaws_internal_gitremote_b1.FnPickHeadIdempotent", spec := "fnPickHeadIdempotent", inPlace := ["internal/bytealg.abigen_runtime_cmpstring"], unfollowed := true, recurses := true, apart := false }
def FnPickHeadIdempotentSaid : Prop := fnPickHeadIdempotentRow.holds Try.pinned (OpenSpec.ofChange fnPickHeadIdempotentSpec)

/-- ITS FALSE NEIGHBOUR: 'it returns false'. Refute it at one input. -/
def fnPickHeadIdempotentWrong : ChangeSpec := { name := "fnPickHeadIdempotent", fn := fun _ => fun
  | [d1, d2, d3] => { results := [.lit (.bool false)], args := [d1, d2, d3] }
  | _ => none }
def FnPickHeadIdempotentWrongFalsely : Prop := fnPickHeadIdempotentRow.holds Try.pinned (OpenSpec.ofChange fnPickHeadIdempotentWrong)

/-- 'zzlaws_internal_gitremote_b1.FnSetUndoneBySettingOldValue': WHATEVER THE INPUT: true; the input reads as it did. -/
def fnSetUndoneBySettingOldValueSpec : ChangeSpec := { name := "fnSetUndoneBySettingOldValue", fn := fun _ => fun
  | [d1, d2, d3, d4, d5] => { results := [.lit (.bool true)], args := [d1, d2, d3, d4, d5] }
  | _ => none }
def fnSetUndoneBySettingOldValueRow : OpenClaim := { program := "qxb6602077a", sum := "ea74eaa369815ee3ce963a685812fdb8ccd401d5c11ad5d8c007e46b67dc21a0", func := "example.com/murkle/murkle/zzlaws_internal_gitremote_b1.FnSetUndoneBySettingOldValue", spec := "fnSetUndoneBySettingOldValue", inPlace := ["internal/bytealg.abigen_runtime_cmpstring", "slices.overlaps[example.com/murkle/murkle/internal/gitremote.ref]"], unfollowed := true, recurses := true, apart := false }
def FnSetUndoneBySettingOldValueSaid : Prop := fnSetUndoneBySettingOldValueRow.holds Try.pinned (OpenSpec.ofChange fnSetUndoneBySettingOldValueSpec)

/-- ITS FALSE NEIGHBOUR: 'it returns false'. Refute it at one input. -/
def fnSetUndoneBySettingOldValueWrong : ChangeSpec := { name := "fnSetUndoneBySettingOldValue", fn := fun _ => fun
  | [d1, d2, d3, d4, d5] => { results := [.lit (.bool false)], args := [d1, d2, d3, d4, d5] }
  | _ => none }
def FnSetUndoneBySettingOldValueWrongFalsely : Prop := fnSetUndoneBySettingOldValueRow.holds Try.pinned (OpenSpec.ofChange fnSetUndoneBySettingOldValueWrong)

/-- 'zzlaws_internal_gitremote_b1.FnSetThenPickHeadKeepsStateInvariant': WHATEVER THE INPUT: true; the input reads as it did. -/
def fnSetThenPickHeadKeepsStateInvariantSpec : ChangeSpec := { name := "fnSetThenPickHeadKeepsStateInvariant", fn := fun _ => fun
  | [d1, d2, d3, d4] => { results := [.lit (.bool true)], args := [d1, d2, d3, d4] }
  | _ => none }
def fnSetThenPickHeadKeepsStateInvariantRow : OpenClaim := { program := "qxb6602077a", sum := "ea74eaa369815ee3ce963a685812fdb8ccd401d5c11ad5d8c007e46b67dc21a0", func := "example.com/murkle/murkle/zzlaws_internal_gitremote_b1.FnSetThenPickHeadKeepsStateInvariant", spec := "fnSetThenPickHeadKeepsStateInvariant", inPlace := ["internal/bytealg.abigen_runtime_cmpstring", "slices.overlaps[example.com/murkle/murkle/internal/gitremote.ref]"], unfollowed := true, recurses := true, apart := false }
def FnSetThenPickHeadKeepsStateInvariantSaid : Prop := fnSetThenPickHeadKeepsStateInvariantRow.holds Try.pinned (OpenSpec.ofChange fnSetThenPickHeadKeepsStateInvariantSpec)

/-- ITS FALSE NEIGHBOUR: 'it returns false'. Refute it at one input. -/
def fnSetThenPickHeadKeepsStateInvariantWrong : ChangeSpec := { name := "fnSetThenPickHeadKeepsStateInvariant", fn := fun _ => fun
  | [d1, d2, d3, d4] => { results := [.lit (.bool false)], args := [d1, d2, d3, d4] }
  | _ => none }
def FnSetThenPickHeadKeepsStateInvariantWrongFalsely : Prop := fnSetThenPickHeadKeepsStateInvariantRow.holds Try.pinned (OpenSpec.ofChange fnSetThenPickHeadKeepsStateInvariantWrong)

end Rows
end Go.Proofs.Qxb6602077a
