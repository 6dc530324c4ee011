/-
  No cell of these rows narrows 'for every input' (looked for: loops, veiled, ifaces, maps, wideKeys, modest, calm, conditions, laid).
  DERIVED. THE GIVEN ROWS OF THIS SEAT. 2 by the template 'for every input the law returns true; each argument reads behind the call as it read before'; 0 by the template 'total and deterministic' (their statements: Qxb6614985aTotals.lean).
  GIVEN WITH THE SEED: the statements are not yours to turn. If you find one false, say at which input.
  Laid BY PROGRAM, IN A SANDBOX (cutbox-rows.mjs): the forced cells as the released guide's own fill.sh prints them over the translation b393c1520f1830bc… (all of the seat's roots in one cut). By AI agents, Wed Nov 11 2026. No macro, syntax, notation, axiom, sorry.
-/
import Derived.Test.Qxb6614985aChecked
import GoSem.Claim
import GoSem.ClaimJoined
import GoSem.ClaimMapViews
import Derived.JoinedTies
import Derived.KernelRfl
namespace Go.Proofs.Qxb6614985a
/- THE CELL 'sum', in the pinned program and in every row, IS THE sha256 OF THE DUMP (.gsa) THAT Qxb6614985aProg.lean LOADS. Nothing in Lean hashes anything: it is a label: what it is worth is what the hold of that sum in a sandbox is worth. -/
noncomputable def Try.pinned : Pinned := { name := "qxb6614985a", sum := "b393c1520f1830bce060242554b4422d9b4e40c89a0e581fa1b808147fb8b224", checked := Try.checked }
namespace Rows
def none {H : Type} : Left H := { results := [], args := [] }

/-- 'zzlaws_internal_postree_b1.FnSplitDoneReadsBackPackedBits': WHATEVER THE INPUT: true; the input reads as it did. -/
def fnSplitDoneReadsBackPackedBitsSpec : ChangeSpec := { name := "fnSplitDoneReadsBackPackedBits", fn := fun _ => fun
  | [d] => { results := [.lit (.bool true)], args := [d] }
  | _ => none }
def fnSplitDoneReadsBackPackedBitsRow : OpenClaim := { program := "qxb6614985a", sum := "b393c1520f1830bce060242554b4422d9b4e40c89a0e581fa1b808147fb8b224", func := "example.com/ramify/ramify/zzlaws_internal_postree_b1.FnSplitDoneReadsBackPackedBits", spec := "fnSplitDoneReadsBackPackedBits", inPlace := ["sync/atomic.StoreUint64", "sync/atomic.LoadUint64"], apart := false }
def FnSplitDoneReadsBackPackedBitsSaid : Prop := fnSplitDoneReadsBackPackedBitsRow.holds Try.pinned (OpenSpec.ofChange fnSplitDoneReadsBackPackedBitsSpec)

/-- ITS FALSE NEIGHBOUR: 'it returns false'. Refute it at one input. -/
def fnSplitDoneReadsBackPackedBitsWrong : ChangeSpec := { name := "fnSplitDoneReadsBackPackedBits", fn := fun _ => fun
  | [d] => { results := [.lit (.bool false)], args := [d] }
  | _ => none }
def FnSplitDoneReadsBackPackedBitsWrongFalsely : Prop := fnSplitDoneReadsBackPackedBitsRow.holds Try.pinned (OpenSpec.ofChange fnSplitDoneReadsBackPackedBitsWrong)

/-- 'zzlaws_internal_postree_b1.FnSplitDoneCountsEachWordsOnes': WHATEVER THE INPUT: true; the input reads as it did. -/
def fnSplitDoneCountsEachWordsOnesSpec : ChangeSpec := { name := "fnSplitDoneCountsEachWordsOnes", fn := fun _ => fun
  | [d] => { results := [.lit (.bool true)], args := [d] }
  | _ => none }
def fnSplitDoneCountsEachWordsOnesRow : OpenClaim := { program := "qxb6614985a", sum := "b393c1520f1830bce060242554b4422d9b4e40c89a0e581fa1b808147fb8b224", func := "example.com/ramify/ramify/zzlaws_internal_postree_b1.FnSplitDoneCountsEachWordsOnes", spec := "fnSplitDoneCountsEachWordsOnes", inPlace := ["sync/atomic.StoreUint64", "sync/atomic.LoadUint64"], apart := false }
def FnSplitDoneCountsEachWordsOnesSaid : Prop := fnSplitDoneCountsEachWordsOnesRow.holds Try.pinned (OpenSpec.ofChange fnSplitDoneCountsEachWordsOnesSpec)

/-- ITS FALSE NEIGHBOUR: 'it returns false'. Refute it at one input. -/
def fnSplitDoneCountsEachWordsOnesWrong : ChangeSpec := { name := "fnSplitDoneCountsEachWordsOnes", fn := fun _ => fun
  | [d] => { results := [.lit (.bool false)], args := [d] }
  | _ => none }
def FnSplitDoneCountsEachWordsOnesWrongFalsely : Prop := fnSplitDoneCountsEachWordsOnesRow.holds Try.pinned (OpenSpec.ofChange fnSplitDoneCountsEachWordsOnesWrong)

end Rows
end Go.Proofs.Qxb6614985a
