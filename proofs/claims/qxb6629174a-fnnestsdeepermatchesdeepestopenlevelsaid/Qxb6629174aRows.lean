/-
  No cell of these rows narrows 'for every input' (looked for: loops, veiled, ifaces, maps, wideKeys, modest, calm, conditions, laid).
  DERIVED. THE GIVEN ROWS OF THIS SEAT. 2 by the template 'for every input the law returns true; each argument reads behind the call as it read before'; 0 by the template 'total and deterministic' (their statements: Qxb6629174aTotals.lean).
  GIVEN WITH THE SEED: the statements are not yours to turn. If you find one false, say at which input.
  Laid BY PROGRAM, IN A SANDBOX (cutbox-rows.mjs): the forced cells as the released guide's own fill.sh prints them over the translation 89d8514f5a3ac163… (all of the seat's roots in one cut). By AI agents, Wed Nov 11 2026. No macro, syntax, notation, axiom, sorry.
-/
import Derived.Test.Qxb6629174aChecked
import GoSem.Claim
import GoSem.ClaimJoined
import GoSem.ClaimMapViews
import Derived.JoinedTies
import Derived.KernelRfl
namespace Go.Proofs.Qxb6629174a
/- THE CELL 'sum', in the pinned program and in every row, IS THE sha256 OF THE DUMP (.gsa) THAT Qxb6629174aProg.lean LOADS. Nothing in Lean hashes anything: it is a label: what it is worth is what the hold of that sum in a sandbox is worth. -/
noncomputable def Try.pinned : Pinned := { name := "qxb6629174a", sum := "89d8514f5a3ac163132b73b4d61b1000c95e58f2a4181b07bece1567cc8e9979", checked := Try.checked }
namespace Rows
def none {H : Type} : Left H := { results := [], args := [] }

/-- 'zzlaws_pkg_message_b1.FnNestsDeeperMatchesDeepestOpenLevel': WHATEVER THE INPUT: true; the input reads as it did. -/
def fnNestsDeeperMatchesDeepestOpenLevelSpec : ChangeSpec := { name := "fnNestsDeeperMatchesDeepestOpenLevel", fn := fun _ => fun
  | [d1, d2] => { results := [.lit (.bool true)], args := [d1, d2] }
  | _ => none }
def fnNestsDeeperMatchesDeepestOpenLevelRow : OpenClaim := { program := "qxb6629174a", sum := "89d8514f5a3ac163132b73b4d61b1000c95e58f2a4181b07bece1567cc8e9979", func := "example.com/fussy-doorman/fussy-doorman/zzlaws_pkg_message_b1.FnNestsDeeperMatchesDeepestOpenLevel", spec := "fnNestsDeeperMatchesDeepestOpenLevel", apart := false }
def FnNestsDeeperMatchesDeepestOpenLevelSaid : Prop := fnNestsDeeperMatchesDeepestOpenLevelRow.holds Try.pinned (OpenSpec.ofChange fnNestsDeeperMatchesDeepestOpenLevelSpec)

/-- ITS FALSE NEIGHBOUR: 'it returns false'. Refute it at one input. -/
def fnNestsDeeperMatchesDeepestOpenLevelWrong : ChangeSpec := { name := "fnNestsDeeperMatchesDeepestOpenLevel", fn := fun _ => fun
  | [d1, d2] => { results := [.lit (.bool false)], args := [d1, d2] }
  | _ => none }
def FnNestsDeeperMatchesDeepestOpenLevelWrongFalsely : Prop := fnNestsDeeperMatchesDeepestOpenLevelRow.holds Try.pinned (OpenSpec.ofChange fnNestsDeeperMatchesDeepestOpenLevelWrong)

/-- 'zzlaws_pkg_message_b1.FnNestsDeeperWrapAddsOneLevel': WHATEVER THE INPUT: true; the input reads as it did. -/
def fnNestsDeeperWrapAddsOneLevelSpec : ChangeSpec := { name := "fnNestsDeeperWrapAddsOneLevel", fn := fun _ => fun
  | [d1, d2] => { results := [.lit (.bool true)], args := [d1, d2] }
  | _ => none }
def fnNestsDeeperWrapAddsOneLevelRow : OpenClaim := { program := "qxb6629174a", sum := "89d8514f5a3ac163132b73b4d61b1000c95e58f2a4181b07bece1567cc8e9979", func := "example.com/fussy-doorman/fussy-doorman/zzlaws_pkg_message_b1.FnNestsDeeperWrapAddsOneLevel", spec := "fnNestsDeeperWrapAddsOneLevel", apart := false }
def FnNestsDeeperWrapAddsOneLevelSaid : Prop := fnNestsDeeperWrapAddsOneLevelRow.holds Try.pinned (OpenSpec.ofChange fnNestsDeeperWrapAddsOneLevelSpec)

/-- ITS FALSE NEIGHBOUR: 'it returns false'. Refute it at one input. -/
def fnNestsDeeperWrapAddsOneLevelWrong : ChangeSpec := { name := "fnNestsDeeperWrapAddsOneLevel", fn := fun _ => fun
  | [d1, d2] => { results := [.lit (.bool false)], args := [d1, d2] }
  | _ => none }
def FnNestsDeeperWrapAddsOneLevelWrongFalsely : Prop := fnNestsDeeperWrapAddsOneLevelRow.holds Try.pinned (OpenSpec.ofChange fnNestsDeeperWrapAddsOneLevelWrong)

end Rows
end Go.Proofs.Qxb6629174a
