/-
  No cell of these rows narrows 'for every input' (looked for: loops, veiled, ifaces, maps, wideKeys, modest, calm, conditions, laid).
  DERIVED. THE GIVEN ROWS OF THIS SEAT. 2 by the template 'for every input the law returns true; each argument reads behind the call as it read before'; 0 by the template 'total and deterministic' (their statements: Qxb6003819aTotals.lean).
  GIVEN WITH THE SEED: the statements are not yours to turn. If you find one false, say at which input.
  Laid BY PROGRAM, IN A SANDBOX (cutbox-rows.mjs): the forced cells as the released guide's own fill.sh prints them over the translation bbab9516a924f3e6… (all of the seat's roots in one cut). By AI agents, Wed Nov 11 2026. No macro, syntax, notation, axiom, sorry.
-/
import Derived.Test.Qxb6003819aChecked
import GoSem.Claim
import GoSem.ClaimJoined
import GoSem.ClaimMapViews
import Derived.JoinedTies
import Derived.KernelRfl
namespace Go.Proofs.Qxb6003819a
/- THE CELL 'sum', in the pinned program and in every row, IS THE sha256 OF THE DUMP (.gsa) THAT Qxb6003819aProg.lean LOADS. Nothing in Lean hashes anything: it is a label: what it is worth is what the hold of that sum in a sandbox is worth. -/
noncomputable def Try.pinned : Pinned := { name := "qxb6003819a", sum := "bbab9516a924f3e6b72c4da9e7651c1e1a18f9d8408c6af52c7f3d681ba869e3", checked := Try.checked }
namespace Rows
def none {H : Type} : Left H := { results := [], args := [] }

/-- 'zzlaws_root_c2b.PropHistoryVersionIsNewestAtOrBefore': WHATEVER THE INPUT: true; the input reads as it did. -/
def propHistoryVersionIsNewestAtOrBeforeSpec : ChangeSpec := { name := "propHistoryVersionIsNewestAtOrBefore", fn := fun _ => fun
  | [d] => { results := [.lit (.bool true)], args := [d] }
  | _ => none }
def propHistoryVersionIsNewestAtOrBeforeRow : OpenClaim := { program := "qxb6003819a", sum := "bbab9516a924f3e6b72c4da9e7651c1e1a18f9d8408c6af52c7f3d681ba869e3", func := "example.com/sanguine/sanguine/zzlaws_root_c2b.PropHistoryVersionIsNewestAtOrBefore", spec := "propHistoryVersionIsNewestAtOrBefore", inPlace := ["sync/atomic.LoadPointer", "sync/atomic.StorePointer"], apart := false }
def PropHistoryVersionIsNewestAtOrBeforeSaid : Prop := propHistoryVersionIsNewestAtOrBeforeRow.holds Try.pinned (OpenSpec.ofChange propHistoryVersionIsNewestAtOrBeforeSpec)

/-- ITS FALSE NEIGHBOUR: 'it returns false'. Refute it at one input. -/
def propHistoryVersionIsNewestAtOrBeforeWrong : ChangeSpec := { name := "propHistoryVersionIsNewestAtOrBefore", fn := fun _ => fun
  | [d] => { results := [.lit (.bool false)], args := [d] }
  | _ => none }
def PropHistoryVersionIsNewestAtOrBeforeWrongFalsely : Prop := propHistoryVersionIsNewestAtOrBeforeRow.holds Try.pinned (OpenSpec.ofChange propHistoryVersionIsNewestAtOrBeforeWrong)

/-- 'zzlaws_root_c2b.PropEpochListKeepsJoinedEpochsOrdered': WHATEVER THE INPUT: true; the input reads as it did. -/
def propEpochListKeepsJoinedEpochsOrderedSpec : ChangeSpec := { name := "propEpochListKeepsJoinedEpochsOrdered", fn := fun _ => fun
  | [d] => { results := [.lit (.bool true)], args := [d] }
  | _ => none }
def propEpochListKeepsJoinedEpochsOrderedRow : OpenClaim := { program := "qxb6003819a", sum := "bbab9516a924f3e6b72c4da9e7651c1e1a18f9d8408c6af52c7f3d681ba869e3", func := "example.com/sanguine/sanguine/zzlaws_root_c2b.PropEpochListKeepsJoinedEpochsOrdered", spec := "propEpochListKeepsJoinedEpochsOrdered", inPlace := ["sync/atomic.StorePointer", "sync/atomic.LoadPointer", "sync/atomic.LoadInt64", "sync/atomic.AddInt64", "sync/atomic.StoreInt64", "sync/atomic.CompareAndSwapInt64"], unfollowed := true, recurses := true, apart := false }
def PropEpochListKeepsJoinedEpochsOrderedSaid : Prop := propEpochListKeepsJoinedEpochsOrderedRow.holds Try.pinned (OpenSpec.ofChange propEpochListKeepsJoinedEpochsOrderedSpec)

/-- ITS FALSE NEIGHBOUR: 'it returns false'. Refute it at one input. -/
def propEpochListKeepsJoinedEpochsOrderedWrong : ChangeSpec := { name := "propEpochListKeepsJoinedEpochsOrdered", fn := fun _ => fun
  | [d] => { results := [.lit (.bool false)], args := [d] }
  | _ => none }
def PropEpochListKeepsJoinedEpochsOrderedWrongFalsely : Prop := propEpochListKeepsJoinedEpochsOrderedRow.holds Try.pinned (OpenSpec.ofChange propEpochListKeepsJoinedEpochsOrderedWrong)

end Rows
end Go.Proofs.Qxb6003819a
