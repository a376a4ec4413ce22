/-
  No cell of these rows narrows 'for every input' (looked for: loops, veiled, ifaces, maps, wideKeys, modest, calm, conditions, laid).
  DERIVED. THE GIVEN ROWS OF THIS SEAT. 4 by the template 'for every input the law returns true; each argument reads behind the call as it read before'; 0 by the template 'total and deterministic' (their statements: Qxb6602393aTotals.lean).
  GIVEN WITH THE SEED: the statements are not yours to turn. If you find one false, say at which input.
  Laid BY PROGRAM, IN A SANDBOX (cutbox-rows.mjs): the forced cells as the released guide's own fill.sh prints them over the translation 2a34181b3d640c93… (all of the seat's roots in one cut). By AI agents, Wed Nov 11 2026. No macro, syntax, notation, axiom, sorry.
-/
import Derived.Test.Qxb6602393aChecked
import GoSem.Claim
import GoSem.ClaimJoined
import GoSem.ClaimMapViews
import Derived.JoinedTies
import Derived.KernelRfl
namespace Go.Proofs.Qxb6602393a
/- THE CELL 'sum', in the pinned program and in every row, IS THE sha256 OF THE DUMP (.gsa) THAT Qxb6602393aProg.lean LOADS. Nothing in Lean hashes anything: it is a label: what it is worth is what the hold of that sum in a sandbox is worth. -/
noncomputable def Try.pinned : Pinned := { name := "qxb6602393a", sum := "2a34181b3d640c930b48a1adc23cc3857b719761c05f46b8cc4fe8da6e59994e", checked := Try.checked }
namespace Rows
def none {H : Type} : Left H := { results := [], args := [] }

/-- 'zzlaws_pkg_register_b1.FnIndexRemoveIsClusterReinsert': WHATEVER THE INPUT: true; the input reads as it did. -/
def fnIndexRemoveIsClusterReinsertSpec : ChangeSpec := { name := "fnIndexRemoveIsClusterReinsert", fn := fun _ => fun
  | [d1, d2, d3] => { results := [.lit (.bool true)], args := [d1, d2, d3] }
  | _ => none }
def fnIndexRemoveIsClusterReinsertRow : OpenClaim := { program := "qxb6602393a", sum := "2a34181b3d640c930b48a1adc23cc3857b719761c05f46b8cc4fe8da6e59994e", func := "example.com/qiyue/qiyue/zzlaws_pkg_register_b1.FnIndexRemoveIsClusterReinsert", spec := "fnIndexRemoveIsClusterReinsert", apart := false }
def FnIndexRemoveIsClusterReinsertSaid : Prop := fnIndexRemoveIsClusterReinsertRow.holds Try.pinned (OpenSpec.ofChange fnIndexRemoveIsClusterReinsertSpec)

/-- ITS FALSE NEIGHBOUR: 'it returns false'. Refute it at one input. -/
def fnIndexRemoveIsClusterReinsertWrong : ChangeSpec := { name := "fnIndexRemoveIsClusterReinsert", fn := fun _ => fun
  | [d1, d2, d3] => { results := [.lit (.bool false)], args := [d1, d2, d3] }
  | _ => none }
def FnIndexRemoveIsClusterReinsertWrongFalsely : Prop := fnIndexRemoveIsClusterReinsertRow.holds Try.pinned (OpenSpec.ofChange fnIndexRemoveIsClusterReinsertWrong)

/-- 'zzlaws_pkg_register_b1.FnIndexRemoveKeepsOthersFindable': WHATEVER THE INPUT: true; the input reads as it did. -/
def fnIndexRemoveKeepsOthersFindableSpec : ChangeSpec := { name := "fnIndexRemoveKeepsOthersFindable", fn := fun _ => fun
  | [d1, d2, d3] => { results := [.lit (.bool true)], args := [d1, d2, d3] }
  | _ => none }
def fnIndexRemoveKeepsOthersFindableRow : OpenClaim := { program := "qxb6602393a", sum := "2a34181b3d640c930b48a1adc23cc3857b719761c05f46b8cc4fe8da6e59994e", func := "example.com/qiyue/qiyue/zzlaws_pkg_register_b1.FnIndexRemoveKeepsOthersFindable", spec := "fnIndexRemoveKeepsOthersFindable", apart := false }
def FnIndexRemoveKeepsOthersFindableSaid : Prop := fnIndexRemoveKeepsOthersFindableRow.holds Try.pinned (OpenSpec.ofChange fnIndexRemoveKeepsOthersFindableSpec)

/-- ITS FALSE NEIGHBOUR: 'it returns false'. Refute it at one input. -/
def fnIndexRemoveKeepsOthersFindableWrong : ChangeSpec := { name := "fnIndexRemoveKeepsOthersFindable", fn := fun _ => fun
  | [d1, d2, d3] => { results := [.lit (.bool false)], args := [d1, d2, d3] }
  | _ => none }
def FnIndexRemoveKeepsOthersFindableWrongFalsely : Prop := fnIndexRemoveKeepsOthersFindableRow.holds Try.pinned (OpenSpec.ofChange fnIndexRemoveKeepsOthersFindableWrong)

/-- 'zzlaws_pkg_register_b1.FnIndexGrowSizeAndEntries': WHATEVER THE INPUT: true; the input reads as it did. -/
def fnIndexGrowSizeAndEntriesSpec : ChangeSpec := { name := "fnIndexGrowSizeAndEntries", fn := fun _ => fun
  | [d1, d2, d3] => { results := [.lit (.bool true)], args := [d1, d2, d3] }
  | _ => none }
def fnIndexGrowSizeAndEntriesRow : OpenClaim := { program := "qxb6602393a", sum := "2a34181b3d640c930b48a1adc23cc3857b719761c05f46b8cc4fe8da6e59994e", func := "example.com/qiyue/qiyue/zzlaws_pkg_register_b1.FnIndexGrowSizeAndEntries", spec := "fnIndexGrowSizeAndEntries", apart := false }
def FnIndexGrowSizeAndEntriesSaid : Prop := fnIndexGrowSizeAndEntriesRow.holds Try.pinned (OpenSpec.ofChange fnIndexGrowSizeAndEntriesSpec)

/-- ITS FALSE NEIGHBOUR: 'it returns false'. Refute it at one input. -/
def fnIndexGrowSizeAndEntriesWrong : ChangeSpec := { name := "fnIndexGrowSizeAndEntries", fn := fun _ => fun
  | [d1, d2, d3] => { results := [.lit (.bool false)], args := [d1, d2, d3] }
  | _ => none }
def FnIndexGrowSizeAndEntriesWrongFalsely : Prop := fnIndexGrowSizeAndEntriesRow.holds Try.pinned (OpenSpec.ofChange fnIndexGrowSizeAndEntriesWrong)

/-- 'zzlaws_pkg_register_b1.FnIndexGrowLeavesRoomForWhatItPromised': WHATEVER THE INPUT: true; the input reads as it did. -/
def fnIndexGrowLeavesRoomForWhatItPromisedSpec : ChangeSpec := { name := "fnIndexGrowLeavesRoomForWhatItPromised", fn := fun _ => fun
  | [d1, d2, d3, d4] => { results := [.lit (.bool true)], args := [d1, d2, d3, d4] }
  | _ => none }
def fnIndexGrowLeavesRoomForWhatItPromisedRow : OpenClaim := { program := "qxb6602393a", sum := "2a34181b3d640c930b48a1adc23cc3857b719761c05f46b8cc4fe8da6e59994e", func := "example.com/qiyue/qiyue/zzlaws_pkg_register_b1.FnIndexGrowLeavesRoomForWhatItPromised", spec := "fnIndexGrowLeavesRoomForWhatItPromised", apart := false }
def FnIndexGrowLeavesRoomForWhatItPromisedSaid : Prop := fnIndexGrowLeavesRoomForWhatItPromisedRow.holds Try.pinned (OpenSpec.ofChange fnIndexGrowLeavesRoomForWhatItPromisedSpec)

/-- ITS FALSE NEIGHBOUR: 'it returns false'. Refute it at one input. -/
def fnIndexGrowLeavesRoomForWhatItPromisedWrong : ChangeSpec := { name := "fnIndexGrowLeavesRoomForWhatItPromised", fn := fun _ => fun
  | [d1, d2, d3, d4] => { results := [.lit (.bool false)], args := [d1, d2, d3, d4] }
  | _ => none }
def FnIndexGrowLeavesRoomForWhatItPromisedWrongFalsely : Prop := fnIndexGrowLeavesRoomForWhatItPromisedRow.holds Try.pinned (OpenSpec.ofChange fnIndexGrowLeavesRoomForWhatItPromisedWrong)

end Rows
end Go.Proofs.Qxb6602393a
