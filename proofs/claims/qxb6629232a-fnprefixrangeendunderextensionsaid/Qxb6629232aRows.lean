/-
  No cell of these rows narrows 'for every input' (looked for: loops, veiled, ifaces, maps, wideKeys, modest, calm, conditions, laid).
  DERIVED. THE GIVEN ROWS OF THIS SEAT. 2 by the template 'for every input the law returns true; each argument reads behind the call as it read before'; 0 by the template 'total and deterministic' (their statements: Qxb6629232aTotals.lean).
  GIVEN WITH THE SEED: the statements are not yours to turn. If you find one false, say at which input.
  Laid BY PROGRAM, IN A SANDBOX (cutbox-rows.mjs): the forced cells as the released guide's own fill.sh prints them over the translation ce368e12f7a10e95… (all of the seat's roots in one cut). By AI agents, Wed Nov 11 2026. No macro, syntax, notation, axiom, sorry.
-/
import Derived.Test.Qxb6629232aChecked
import GoSem.Claim
import GoSem.ClaimJoined
import GoSem.ClaimMapViews
import Derived.JoinedTies
import Derived.KernelRfl
namespace Go.Proofs.Qxb6629232a
/- THE CELL 'sum', in the pinned program and in every row, IS THE sha256 OF THE DUMP (.gsa) THAT Qxb6629232aProg.lean LOADS. Nothing in Lean hashes anything: it is a label: what it is worth is what the hold of that sum in a sandbox is worth. -/
noncomputable def Try.pinned : Pinned := { name := "qxb6629232a", sum := "ce368e12f7a10e95c2afb1c8201873c43a08d95728a7b4d08362e27ab99e1505", checked := Try.checked }
namespace Rows
def none {H : Type} : Left H := { results := [], args := [] }

/-- 'zzlaws_internal_versions_b1.FnPrefixRangeHoldsExactlyPrefixedKeys': WHATEVER THE INPUT: true; the input reads as it did. -/
def fnPrefixRangeHoldsExactlyPrefixedKeysSpec : ChangeSpec := { name := "fnPrefixRangeHoldsExactlyPrefixedKeys", fn := fun _ => fun
  | [d1, d2] => { results := [.lit (.bool true)], args := [d1, d2] }
  | _ => none }
def fnPrefixRangeHoldsExactlyPrefixedKeysRow : OpenClaim := { program := "qxb6629232a", sum := "ce368e12f7a10e95c2afb1c8201873c43a08d95728a7b4d08362e27ab99e1505", func := "example.com/stampwise/stampwise/zzlaws_internal_versions_b1.FnPrefixRangeHoldsExactlyPrefixedKeys", spec := "fnPrefixRangeHoldsExactlyPrefixedKeys", apart := false }
def FnPrefixRangeHoldsExactlyPrefixedKeysSaid : Prop := fnPrefixRangeHoldsExactlyPrefixedKeysRow.holds Try.pinned (OpenSpec.ofChange fnPrefixRangeHoldsExactlyPrefixedKeysSpec)

/-- ITS FALSE NEIGHBOUR: 'it returns false'. Refute it at one input. -/
def fnPrefixRangeHoldsExactlyPrefixedKeysWrong : ChangeSpec := { name := "fnPrefixRangeHoldsExactlyPrefixedKeys", fn := fun _ => fun
  | [d1, d2] => { results := [.lit (.bool false)], args := [d1, d2] }
  | _ => none }
def FnPrefixRangeHoldsExactlyPrefixedKeysWrongFalsely : Prop := fnPrefixRangeHoldsExactlyPrefixedKeysRow.holds Try.pinned (OpenSpec.ofChange fnPrefixRangeHoldsExactlyPrefixedKeysWrong)

/-- 'zzlaws_internal_versions_b1.FnPrefixRangeEndUnderExtension': WHATEVER THE INPUT: true; the input reads as it did. -/
def fnPrefixRangeEndUnderExtensionSpec : ChangeSpec := { name := "fnPrefixRangeEndUnderExtension", fn := fun _ => fun
  | [d1, d2] => { results := [.lit (.bool true)], args := [d1, d2] }
  | _ => none }
def fnPrefixRangeEndUnderExtensionRow : OpenClaim := { program := "qxb6629232a", sum := "ce368e12f7a10e95c2afb1c8201873c43a08d95728a7b4d08362e27ab99e1505", func := "example.com/stampwise/stampwise/zzlaws_internal_versions_b1.FnPrefixRangeEndUnderExtension", spec := "fnPrefixRangeEndUnderExtension", apart := false }
def FnPrefixRangeEndUnderExtensionSaid : Prop := fnPrefixRangeEndUnderExtensionRow.holds Try.pinned (OpenSpec.ofChange fnPrefixRangeEndUnderExtensionSpec)

/-- ITS FALSE NEIGHBOUR: 'it returns false'. Refute it at one input. -/
def fnPrefixRangeEndUnderExtensionWrong : ChangeSpec := { name := "fnPrefixRangeEndUnderExtension", fn := fun _ => fun
  | [d1, d2] => { results := [.lit (.bool false)], args := [d1, d2] }
  | _ => none }
def FnPrefixRangeEndUnderExtensionWrongFalsely : Prop := fnPrefixRangeEndUnderExtensionRow.holds Try.pinned (OpenSpec.ofChange fnPrefixRangeEndUnderExtensionWrong)

end Rows
end Go.Proofs.Qxb6629232a
