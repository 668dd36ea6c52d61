/-
  No cell of these rows narrows 'for every input' (looked for: loops, veiled, ifaces, maps, wideKeys, modest, calm, conditions, laid).
  DERIVED. THE GIVEN ROWS OF THIS SEAT. 3 by the template 'for every input the law returns true; each argument reads behind the call as it read before'; 0 by the template 'total and deterministic' (their statements: Qxb6617231aTotals.lean).
  GIVEN WITH THE SEED: the statements are not yours to turn. If you find one false, say at which input.
  Laid BY PROGRAM, IN A SANDBOX (cutbox-rows.mjs): the forced cells as the released guide's own fill.sh prints them over the translation 00d8d74da2919c80… (all of the seat's roots in one cut). By AI agents, Wed Nov 11 2026. No macro, syntax, notation, axiom, sorry.
-/
import Derived.Test.Qxb6617231aChecked
import GoSem.Claim
import GoSem.ClaimJoined
import GoSem.ClaimMapViews
import Derived.JoinedTies
import Derived.KernelRfl
namespace Go.Proofs.Qxb6617231a
/- THE CELL 'sum', in the pinned program and in every row, IS THE sha256 OF THE DUMP (.gsa) THAT Qxb6617231aProg.lean LOADS. Nothing in Lean hashes anything: it is a label: what it is worth is what the hold of that sum in a sandbox is worth. -/
noncomputable def Try.pinned : Pinned := { name := "qxb6617231a", sum := "00d8d74da2919c805dd4b39c83f9d314f278e7f6f1800b4731358e0493d75d6f", checked := Try.checked }
namespace Rows
def none {H : Type} : Left H := { results := [], args := [] }

/-- 'zzlaws_internal_store_b1.FnDecidingOfFoldsAtAnyCutAndKeepsLatestPerReplica': WHATEVER THE INPUT: true; the input reads as it did. -/
def fnDecidingOfFoldsAtAnyCutAndKeepsLatestPerReplicaSpec : ChangeSpec := { name := "fnDecidingOfFoldsAtAnyCutAndKeepsLatestPerReplica", fn := fun _ => fun
  | [d1, d2, d3] => { results := [.lit (.bool true)], args := [d1, d2, d3] }
  | _ => none }
def fnDecidingOfFoldsAtAnyCutAndKeepsLatestPerReplicaRow : OpenClaim := { program := "qxb6617231a", sum := "00d8d74da2919c805dd4b39c83f9d314f278e7f6f1800b4731358e0493d75d6f", func := "example.com/leeway/leeway/zzlaws_internal_store_b1.FnDecidingOfFoldsAtAnyCutAndKeepsLatestPerReplica", spec := "fnDecidingOfFoldsAtAnyCutAndKeepsLatestPerReplica", unfollowed := true, recurses := true, apart := false }
def FnDecidingOfFoldsAtAnyCutAndKeepsLatestPerReplicaSaid : Prop := fnDecidingOfFoldsAtAnyCutAndKeepsLatestPerReplicaRow.holds Try.pinned (OpenSpec.ofChange fnDecidingOfFoldsAtAnyCutAndKeepsLatestPerReplicaSpec)

/-- ITS FALSE NEIGHBOUR: 'it returns false'. Refute it at one input. -/
def fnDecidingOfFoldsAtAnyCutAndKeepsLatestPerReplicaWrong : ChangeSpec := { name := "fnDecidingOfFoldsAtAnyCutAndKeepsLatestPerReplica", fn := fun _ => fun
  | [d1, d2, d3] => { results := [.lit (.bool false)], args := [d1, d2, d3] }
  | _ => none }
def FnDecidingOfFoldsAtAnyCutAndKeepsLatestPerReplicaWrongFalsely : Prop := fnDecidingOfFoldsAtAnyCutAndKeepsLatestPerReplicaRow.holds Try.pinned (OpenSpec.ofChange fnDecidingOfFoldsAtAnyCutAndKeepsLatestPerReplicaWrong)

/-- 'zzlaws_internal_store_b1.FnDecidingOfPutOrDeleteForgetsWhatCameBefore': WHATEVER THE INPUT: true; the input reads as it did. -/
def fnDecidingOfPutOrDeleteForgetsWhatCameBeforeSpec : ChangeSpec := { name := "fnDecidingOfPutOrDeleteForgetsWhatCameBefore", fn := fun _ => fun
  | [d1, d2, d3, d4] => { results := [.lit (.bool true)], args := [d1, d2, d3, d4] }
  | _ => none }
def fnDecidingOfPutOrDeleteForgetsWhatCameBeforeRow : OpenClaim := { program := "qxb6617231a", sum := "00d8d74da2919c805dd4b39c83f9d314f278e7f6f1800b4731358e0493d75d6f", func := "example.com/leeway/leeway/zzlaws_internal_store_b1.FnDecidingOfPutOrDeleteForgetsWhatCameBefore", spec := "fnDecidingOfPutOrDeleteForgetsWhatCameBefore", unfollowed := true, recurses := true, apart := false }
def FnDecidingOfPutOrDeleteForgetsWhatCameBeforeSaid : Prop := fnDecidingOfPutOrDeleteForgetsWhatCameBeforeRow.holds Try.pinned (OpenSpec.ofChange fnDecidingOfPutOrDeleteForgetsWhatCameBeforeSpec)

/-- ITS FALSE NEIGHBOUR: 'it returns false'. Refute it at one input. -/
def fnDecidingOfPutOrDeleteForgetsWhatCameBeforeWrong : ChangeSpec := { name := "fnDecidingOfPutOrDeleteForgetsWhatCameBefore", fn := fun _ => fun
  | [d1, d2, d3, d4] => { results := [.lit (.bool false)], args := [d1, d2, d3, d4] }
  | _ => none }
def FnDecidingOfPutOrDeleteForgetsWhatCameBeforeWrongFalsely : Prop := fnDecidingOfPutOrDeleteForgetsWhatCameBeforeRow.holds Try.pinned (OpenSpec.ofChange fnDecidingOfPutOrDeleteForgetsWhatCameBeforeWrong)

/-- 'zzlaws_internal_store_b1.FnPlaceMarkKeepsMarksSortedWithRunningSums': WHATEVER THE INPUT: true; the input reads as it did. -/
def fnPlaceMarkKeepsMarksSortedWithRunningSumsSpec : ChangeSpec := { name := "fnPlaceMarkKeepsMarksSortedWithRunningSums", fn := fun _ => fun
  | [d] => { results := [.lit (.bool true)], args := [d] }
  | _ => none }
def fnPlaceMarkKeepsMarksSortedWithRunningSumsRow : OpenClaim := { program := "qxb6617231a", sum := "00d8d74da2919c805dd4b39c83f9d314f278e7f6f1800b4731358e0493d75d6f", func := "example.com/leeway/leeway/zzlaws_internal_store_b1.FnPlaceMarkKeepsMarksSortedWithRunningSums", spec := "fnPlaceMarkKeepsMarksSortedWithRunningSums", unfollowed := true, recurses := true, apart := false }
def FnPlaceMarkKeepsMarksSortedWithRunningSumsSaid : Prop := fnPlaceMarkKeepsMarksSortedWithRunningSumsRow.holds Try.pinned (OpenSpec.ofChange fnPlaceMarkKeepsMarksSortedWithRunningSumsSpec)

/-- ITS FALSE NEIGHBOUR: 'it returns false'. Refute it at one input. -/
def fnPlaceMarkKeepsMarksSortedWithRunningSumsWrong : ChangeSpec := { name := "fnPlaceMarkKeepsMarksSortedWithRunningSums", fn := fun _ => fun
  | [d] => { results := [.lit (.bool false)], args := [d] }
  | _ => none }
def FnPlaceMarkKeepsMarksSortedWithRunningSumsWrongFalsely : Prop := fnPlaceMarkKeepsMarksSortedWithRunningSumsRow.holds Try.pinned (OpenSpec.ofChange fnPlaceMarkKeepsMarksSortedWithRunningSumsWrong)

end Rows
end Go.Proofs.Qxb6617231a
