/-
  No cell of these rows narrows 'for every input' (looked for: loops, veiled, ifaces, maps, wideKeys, modest, calm, conditions, laid).
  DERIVED. THE GIVEN ROWS OF THIS SEAT. 2 by the template 'for every input the law returns true; each argument reads behind the call as it read before'; 0 by the template 'total and deterministic' (their statements: Qxb6629099aTotals.lean).
  GIVEN WITH THE SEED: the statements are not yours to turn. If you find one false, say at which input.
  Laid BY PROGRAM, IN A SANDBOX (cutbox-rows.mjs): the forced cells as the released guide's own fill.sh prints them over the translation 2c0c8e9f2245c75c… (all of the seat's roots in one cut). By AI agents, Wed Nov 11 2026. No macro, syntax, notation, axiom, sorry.
-/
import Derived.Test.Qxb6629099aChecked
import GoSem.Claim
import GoSem.ClaimJoined
import GoSem.ClaimMapViews
import Derived.JoinedTies
import Derived.KernelRfl
namespace Go.Proofs.Qxb6629099a
/- THE CELL 'sum', in the pinned program and in every row, IS THE sha256 OF THE DUMP (.gsa) THAT Qxb6629099aProg.lean LOADS. Nothing in Lean hashes anything: it is a label: what it is worth is what the hold of that sum in a sandbox is worth. -/
noncomputable def Try.pinned : Pinned := { name := "qxb6629099a", sum := "2c0c8e9f2245c75c7029f5dc439b13a1adbc900a18e52099ff80754fad541372", checked := Try.checked }
namespace Rows
def none {H : Type} : Left H := { results := [], args := [] }

/-- 'zzlaws_pkg_sigv4_b1.FnURIEncodeIsCanonicalEncoding': WHATEVER THE INPUT: true; the input reads as it did. -/
def fnURIEncodeIsCanonicalEncodingSpec : ChangeSpec := { name := "fnURIEncodeIsCanonicalEncoding", fn := fun _ => fun
  | [d1, d2] => { results := [.lit (.bool true)], args := [d1, d2] }
  | _ => none }
def fnURIEncodeIsCanonicalEncodingRow : OpenClaim := { program := "qxb6629099a", sum := "2c0c8e9f2245c75c7029f5dc439b13a1adbc900a18e52099ff80754fad541372", func := "example.com/quayside/quayside/zzlaws_pkg_sigv4_b1.FnURIEncodeIsCanonicalEncoding", spec := "fnURIEncodeIsCanonicalEncoding", inPlace := ["internal/abi.NoEscape", "internal/bytealg.MakeNoZero"], apart := false }
def FnURIEncodeIsCanonicalEncodingSaid : Prop := fnURIEncodeIsCanonicalEncodingRow.holds Try.pinned (OpenSpec.ofChange fnURIEncodeIsCanonicalEncodingSpec)

/-- ITS FALSE NEIGHBOUR: 'it returns false'. Refute it at one input. -/
def fnURIEncodeIsCanonicalEncodingWrong : ChangeSpec := { name := "fnURIEncodeIsCanonicalEncoding", fn := fun _ => fun
  | [d1, d2] => { results := [.lit (.bool false)], args := [d1, d2] }
  | _ => none }
def FnURIEncodeIsCanonicalEncodingWrongFalsely : Prop := fnURIEncodeIsCanonicalEncodingRow.holds Try.pinned (OpenSpec.ofChange fnURIEncodeIsCanonicalEncodingWrong)

/-- 'zzlaws_pkg_sigv4_b1.FnURIEncodeCutAndSlash': WHATEVER THE INPUT: true; the input reads as it did. -/
def fnURIEncodeCutAndSlashSpec : ChangeSpec := { name := "fnURIEncodeCutAndSlash", fn := fun _ => fun
  | [d1, d2, d3] => { results := [.lit (.bool true)], args := [d1, d2, d3] }
  | _ => none }
def fnURIEncodeCutAndSlashRow : OpenClaim := { program := "qxb6629099a", sum := "2c0c8e9f2245c75c7029f5dc439b13a1adbc900a18e52099ff80754fad541372", func := "example.com/quayside/quayside/zzlaws_pkg_sigv4_b1.FnURIEncodeCutAndSlash", spec := "fnURIEncodeCutAndSlash", inPlace := ["internal/abi.NoEscape", "internal/bytealg.MakeNoZero"], apart := false }
def FnURIEncodeCutAndSlashSaid : Prop := fnURIEncodeCutAndSlashRow.holds Try.pinned (OpenSpec.ofChange fnURIEncodeCutAndSlashSpec)

/-- ITS FALSE NEIGHBOUR: 'it returns false'. Refute it at one input. -/
def fnURIEncodeCutAndSlashWrong : ChangeSpec := { name := "fnURIEncodeCutAndSlash", fn := fun _ => fun
  | [d1, d2, d3] => { results := [.lit (.bool false)], args := [d1, d2, d3] }
  | _ => none }
def FnURIEncodeCutAndSlashWrongFalsely : Prop := fnURIEncodeCutAndSlashRow.holds Try.pinned (OpenSpec.ofChange fnURIEncodeCutAndSlashWrong)

end Rows
end Go.Proofs.Qxb6629099a
