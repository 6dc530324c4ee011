/-
  No cell of these rows narrows 'for every input' (looked for: loops, veiled, ifaces, maps, wideKeys, modest, calm, conditions, laid).
  DERIVED. THE GIVEN ROWS OF THIS SEAT. 3 by the template 'for every input the law returns true; each argument reads behind the call as it read before'; 0 by the template 'total and deterministic' (their statements: Qxb6614997aTotals.lean).
  GIVEN WITH THE SEED: the statements are not yours to turn. If you find one false, say at which input.
  Laid BY PROGRAM, IN A SANDBOX (cutbox-rows.mjs): the forced cells as the released guide's own fill.sh prints them over the translation 6b8dde264681937a… (all of the seat's roots in one cut). By AI agents, Wed Nov 11 2026. No macro, syntax, notation, axiom, sorry.
-/
import Derived.Test.Qxb6614997aChecked
import GoSem.Claim
import GoSem.ClaimJoined
import GoSem.ClaimMapViews
import Derived.JoinedTies
import Derived.KernelRfl
namespace Go.Proofs.Qxb6614997a
/- THE CELL 'sum', in the pinned program and in every row, IS THE sha256 OF THE DUMP (.gsa) THAT Qxb6614997aProg.lean LOADS. Nothing in Lean hashes anything: it is a label: what it is worth is what the hold of that sum in a sandbox is worth. -/
noncomputable def Try.pinned : Pinned := { name := "qxb6614997a", sum := "6b8dde264681937a699d449ba286624fa0f2af3bcb47ba871cc61969eab3b695", checked := Try.checked }
namespace Rows
def none {H : Type} : Left H := { results := [], args := [] }

/-- 'zzlaws_root_b1.FnKeyBlocksLastIsKeyAtLastPos': WHATEVER THE INPUT: true; the input reads as it did. -/
def fnKeyBlocksLastIsKeyAtLastPosSpec : ChangeSpec := { name := "fnKeyBlocksLastIsKeyAtLastPos", fn := fun _ => fun
  | [d] => { results := [.lit (.bool true)], args := [d] }
  | _ => none }
def fnKeyBlocksLastIsKeyAtLastPosRow : OpenClaim := { program := "qxb6614997a", sum := "6b8dde264681937a699d449ba286624fa0f2af3bcb47ba871cc61969eab3b695", func := "example.com/pagewalk/pagewalk/zzlaws_root_b1.FnKeyBlocksLastIsKeyAtLastPos", spec := "fnKeyBlocksLastIsKeyAtLastPos", apart := false }
def FnKeyBlocksLastIsKeyAtLastPosSaid : Prop := fnKeyBlocksLastIsKeyAtLastPosRow.holds Try.pinned (OpenSpec.ofChange fnKeyBlocksLastIsKeyAtLastPosSpec)

/-- ITS FALSE NEIGHBOUR: 'it returns false'. Refute it at one input. -/
def fnKeyBlocksLastIsKeyAtLastPosWrong : ChangeSpec := { name := "fnKeyBlocksLastIsKeyAtLastPos", fn := fun _ => fun
  | [d] => { results := [.lit (.bool false)], args := [d] }
  | _ => none }
def FnKeyBlocksLastIsKeyAtLastPosWrongFalsely : Prop := fnKeyBlocksLastIsKeyAtLastPosRow.holds Try.pinned (OpenSpec.ofChange fnKeyBlocksLastIsKeyAtLastPosWrong)

/-- 'zzlaws_root_b1.FnKeyBlocksLastAfterOneKeyPutIn': WHATEVER THE INPUT: true; the input reads as it did. -/
def fnKeyBlocksLastAfterOneKeyPutInSpec : ChangeSpec := { name := "fnKeyBlocksLastAfterOneKeyPutIn", fn := fun _ => fun
  | [d1, d2, d3, d4] => { results := [.lit (.bool true)], args := [d1, d2, d3, d4] }
  | _ => none }
def fnKeyBlocksLastAfterOneKeyPutInRow : OpenClaim := { program := "qxb6614997a", sum := "6b8dde264681937a699d449ba286624fa0f2af3bcb47ba871cc61969eab3b695", func := "example.com/pagewalk/pagewalk/zzlaws_root_b1.FnKeyBlocksLastAfterOneKeyPutIn", spec := "fnKeyBlocksLastAfterOneKeyPutIn", apart := false }
def FnKeyBlocksLastAfterOneKeyPutInSaid : Prop := fnKeyBlocksLastAfterOneKeyPutInRow.holds Try.pinned (OpenSpec.ofChange fnKeyBlocksLastAfterOneKeyPutInSpec)

/-- ITS FALSE NEIGHBOUR: 'it returns false'. Refute it at one input. -/
def fnKeyBlocksLastAfterOneKeyPutInWrong : ChangeSpec := { name := "fnKeyBlocksLastAfterOneKeyPutIn", fn := fun _ => fun
  | [d1, d2, d3, d4] => { results := [.lit (.bool false)], args := [d1, d2, d3, d4] }
  | _ => none }
def FnKeyBlocksLastAfterOneKeyPutInWrongFalsely : Prop := fnKeyBlocksLastAfterOneKeyPutInRow.holds Try.pinned (OpenSpec.ofChange fnKeyBlocksLastAfterOneKeyPutInWrong)

/-- 'zzlaws_root_b1.FnShowsPlaceEndingKeptFromFullestOn': WHATEVER THE INPUT: true; the input reads as it did. -/
def fnShowsPlaceEndingKeptFromFullestOnSpec : ChangeSpec := { name := "fnShowsPlaceEndingKeptFromFullestOn", fn := fun _ => fun
  | [d1, d2, d3, d4, d5] => { results := [.lit (.bool true)], args := [d1, d2, d3, d4, d5] }
  | _ => none }
def fnShowsPlaceEndingKeptFromFullestOnRow : OpenClaim := { program := "qxb6614997a", sum := "6b8dde264681937a699d449ba286624fa0f2af3bcb47ba871cc61969eab3b695", func := "example.com/pagewalk/pagewalk/zzlaws_root_b1.FnShowsPlaceEndingKeptFromFullestOn", spec := "fnShowsPlaceEndingKeptFromFullestOn", apart := false }
def FnShowsPlaceEndingKeptFromFullestOnSaid : Prop := fnShowsPlaceEndingKeptFromFullestOnRow.holds Try.pinned (OpenSpec.ofChange fnShowsPlaceEndingKeptFromFullestOnSpec)

/-- ITS FALSE NEIGHBOUR: 'it returns false'. Refute it at one input. -/
def fnShowsPlaceEndingKeptFromFullestOnWrong : ChangeSpec := { name := "fnShowsPlaceEndingKeptFromFullestOn", fn := fun _ => fun
  | [d1, d2, d3, d4, d5] => { results := [.lit (.bool false)], args := [d1, d2, d3, d4, d5] }
  | _ => none }
def FnShowsPlaceEndingKeptFromFullestOnWrongFalsely : Prop := fnShowsPlaceEndingKeptFromFullestOnRow.holds Try.pinned (OpenSpec.ofChange fnShowsPlaceEndingKeptFromFullestOnWrong)

end Rows
end Go.Proofs.Qxb6614997a
