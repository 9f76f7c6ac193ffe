/-
  No cell of these rows narrows 'for every input' (looked for: loops, veiled, ifaces, maps, wideKeys, modest, calm, conditions, laid).
  DERIVED. THE GIVEN ROWS OF THIS SEAT. 2 by the template 'for every input the law returns true; each argument reads behind the call as it read before'; 0 by the template 'total and deterministic' (their statements: Qxb6627850aTotals.lean).
  GIVEN WITH THE SEED: the statements are not yours to turn. If you find one false, say at which input.
  Laid BY PROGRAM, IN A SANDBOX (cutbox-rows.mjs): the forced cells as the released guide's own fill.sh prints them over the translation 330ef58d64952142… (all of the seat's roots in one cut). By AI agents, Wed Nov 11 2026. No macro, syntax, notation, axiom, sorry.
-/
import Derived.Test.Qxb6627850aChecked
import GoSem.Claim
import GoSem.ClaimJoined
import GoSem.ClaimMapViews
import Derived.JoinedTies
import Derived.KernelRfl
namespace Go.Proofs.Qxb6627850a
/- THE CELL 'sum', in the pinned program and in every row, IS THE sha256 OF THE DUMP (.gsa) THAT Qxb6627850aProg.lean LOADS. Nothing in Lean hashes anything: it is a label: what it is worth is what the hold of that sum in a sandbox is worth. -/
noncomputable def Try.pinned : Pinned := { name := "qxb6627850a", sum := "330ef58d64952142a11199010f470ba663c242ae5a0902750290cf671367993f", checked := Try.checked }
namespace Rows
def none {H : Type} : Left H := { results := [], args := [] }

/-- 'zzlaws_shard_b1.FnSplitTwoKeysOrderFreeAgainstSortedSet': WHATEVER THE INPUT: true; the input reads as it did. -/
def fnSplitTwoKeysOrderFreeAgainstSortedSetSpec : ChangeSpec := { name := "fnSplitTwoKeysOrderFreeAgainstSortedSet", fn := fun _ => fun
  | [d1, d2, d3] => { results := [.lit (.bool true)], args := [d1, d2, d3] }
  | _ => none }
def fnSplitTwoKeysOrderFreeAgainstSortedSetRow : OpenClaim := { program := "qxb6627850a", sum := "330ef58d64952142a11199010f470ba663c242ae5a0902750290cf671367993f", func := "example.com/banns/banns/zzlaws_shard_b1.FnSplitTwoKeysOrderFreeAgainstSortedSet", spec := "fnSplitTwoKeysOrderFreeAgainstSortedSet", inPlace := ["internal/bytealg.Compare", "slices.overlaps[[]byte]"], unfollowed := true, recurses := true, apart := false }
def FnSplitTwoKeysOrderFreeAgainstSortedSetSaid : Prop := fnSplitTwoKeysOrderFreeAgainstSortedSetRow.holds Try.pinned (OpenSpec.ofChange fnSplitTwoKeysOrderFreeAgainstSortedSetSpec)

/-- ITS FALSE NEIGHBOUR: 'it returns false'. Refute it at one input. -/
def fnSplitTwoKeysOrderFreeAgainstSortedSetWrong : ChangeSpec := { name := "fnSplitTwoKeysOrderFreeAgainstSortedSet", fn := fun _ => fun
  | [d1, d2, d3] => { results := [.lit (.bool false)], args := [d1, d2, d3] }
  | _ => none }
def FnSplitTwoKeysOrderFreeAgainstSortedSetWrongFalsely : Prop := fnSplitTwoKeysOrderFreeAgainstSortedSetRow.holds Try.pinned (OpenSpec.ofChange fnSplitTwoKeysOrderFreeAgainstSortedSetWrong)

/-- 'zzlaws_shard_b1.FnSplitKeepsOwnCopyOfKeyAndRefusesItAgain': WHATEVER THE INPUT: true; the input reads as it did. -/
def fnSplitKeepsOwnCopyOfKeyAndRefusesItAgainSpec : ChangeSpec := { name := "fnSplitKeepsOwnCopyOfKeyAndRefusesItAgain", fn := fun _ => fun
  | [d1, d2] => { results := [.lit (.bool true)], args := [d1, d2] }
  | _ => none }
def fnSplitKeepsOwnCopyOfKeyAndRefusesItAgainRow : OpenClaim := { program := "qxb6627850a", sum := "330ef58d64952142a11199010f470ba663c242ae5a0902750290cf671367993f", func := "example.com/banns/banns/zzlaws_shard_b1.FnSplitKeepsOwnCopyOfKeyAndRefusesItAgain", spec := "fnSplitKeepsOwnCopyOfKeyAndRefusesItAgain", inPlace := ["internal/bytealg.Compare", "slices.overlaps[[]byte]"], unfollowed := true, recurses := true, apart := false }
def FnSplitKeepsOwnCopyOfKeyAndRefusesItAgainSaid : Prop := fnSplitKeepsOwnCopyOfKeyAndRefusesItAgainRow.holds Try.pinned (OpenSpec.ofChange fnSplitKeepsOwnCopyOfKeyAndRefusesItAgainSpec)

/-- ITS FALSE NEIGHBOUR: 'it returns false'. Refute it at one input. -/
def fnSplitKeepsOwnCopyOfKeyAndRefusesItAgainWrong : ChangeSpec := { name := "fnSplitKeepsOwnCopyOfKeyAndRefusesItAgain", fn := fun _ => fun
  | [d1, d2] => { results := [.lit (.bool false)], args := [d1, d2] }
  | _ => none }
def FnSplitKeepsOwnCopyOfKeyAndRefusesItAgainWrongFalsely : Prop := fnSplitKeepsOwnCopyOfKeyAndRefusesItAgainRow.holds Try.pinned (OpenSpec.ofChange fnSplitKeepsOwnCopyOfKeyAndRefusesItAgainWrong)

end Rows
end Go.Proofs.Qxb6627850a
