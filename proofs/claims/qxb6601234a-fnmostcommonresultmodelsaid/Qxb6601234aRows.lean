/-
  No cell of these rows narrows 'for every input' (looked for: loops, veiled, ifaces, maps, wideKeys, modest, calm, conditions, laid).
  DERIVED. THE GIVEN ROWS OF THIS SEAT. 7 by the template 'for every input the law returns true; each argument reads behind the call as it read before'; 0 by the template 'total and deterministic' (their statements: Qxb6601234aTotals.lean).
  GIVEN WITH THE SEED: the statements are not yours to turn. If you find one false, say at which input.
  Laid BY PROGRAM, IN A SANDBOX (cutbox-rows.mjs): the forced cells as the released guide's own fill.sh prints them over the translation db94fc6e4837b99f… (all of the seat's roots in one cut). By AI agents, Wed Nov 11 2026. No macro, syntax, notation, axiom, sorry.
-/
import Derived.Test.Qxb6601234aChecked
import GoSem.Claim
import GoSem.ClaimJoined
import GoSem.ClaimMapViews
import Derived.JoinedTies
import Derived.KernelRfl
namespace Go.Proofs.Qxb6601234a
/- THE CELL 'sum', in the pinned program and in every row, IS THE sha256 OF THE DUMP (.gsa) THAT Qxb6601234aProg.lean LOADS. Nothing in Lean hashes anything: it is a label: what it is worth is what the hold of that sum in a sandbox is worth. -/
noncomputable def Try.pinned : Pinned := { name := "qxb6601234a", sum := "db94fc6e4837b99f4912044f6da283bcfe5e0971371397f19648dd73286b5ec3", checked := Try.checked }
namespace Rows
def none {H : Type} : Left H := { results := [], args := [] }

/-- 'zzlaws_internal_txn_b1.FnRecordFlagsValueBlindDeletionApart': WHATEVER THE INPUT: true; the input reads as it did. -/
def fnRecordFlagsValueBlindDeletionApartSpec : ChangeSpec := { name := "fnRecordFlagsValueBlindDeletionApart", fn := fun _ => fun
  | [d1, d2, d3, d4, d5] => { results := [.lit (.bool true)], args := [d1, d2, d3, d4, d5] }
  | _ => none }
def fnRecordFlagsValueBlindDeletionApartRow : OpenClaim := { program := "qxb6601234a", sum := "db94fc6e4837b99f4912044f6da283bcfe5e0971371397f19648dd73286b5ec3", func := "example.com/slackline/slackline/zzlaws_internal_txn_b1.FnRecordFlagsValueBlindDeletionApart", spec := "fnRecordFlagsValueBlindDeletionApart", apart := false }
def FnRecordFlagsValueBlindDeletionApartSaid : Prop := fnRecordFlagsValueBlindDeletionApartRow.holds Try.pinned (OpenSpec.ofChange fnRecordFlagsValueBlindDeletionApartSpec)

/-- ITS FALSE NEIGHBOUR: 'it returns false'. Refute it at one input. -/
def fnRecordFlagsValueBlindDeletionApartWrong : ChangeSpec := { name := "fnRecordFlagsValueBlindDeletionApart", fn := fun _ => fun
  | [d1, d2, d3, d4, d5] => { results := [.lit (.bool false)], args := [d1, d2, d3, d4, d5] }
  | _ => none }
def FnRecordFlagsValueBlindDeletionApartWrongFalsely : Prop := fnRecordFlagsValueBlindDeletionApartRow.holds Try.pinned (OpenSpec.ofChange fnRecordFlagsValueBlindDeletionApartWrong)

/-- 'zzlaws_internal_txn_b1.FnMostCommonResultModel': WHATEVER THE INPUT: true; the input reads as it did. -/
def fnMostCommonResultModelSpec : ChangeSpec := { name := "fnMostCommonResultModel", fn := fun _ => fun
  | [d] => { results := [.lit (.bool true)], args := [d] }
  | _ => none }
def fnMostCommonResultModelRow : OpenClaim := { program := "qxb6601234a", sum := "db94fc6e4837b99f4912044f6da283bcfe5e0971371397f19648dd73286b5ec3", func := "example.com/slackline/slackline/zzlaws_internal_txn_b1.FnMostCommonResultModel", spec := "fnMostCommonResultModel", apart := false }
def FnMostCommonResultModelSaid : Prop := fnMostCommonResultModelRow.holds Try.pinned (OpenSpec.ofChange fnMostCommonResultModelSpec)

/-- ITS FALSE NEIGHBOUR: 'it returns false'. Refute it at one input. -/
def fnMostCommonResultModelWrong : ChangeSpec := { name := "fnMostCommonResultModel", fn := fun _ => fun
  | [d] => { results := [.lit (.bool false)], args := [d] }
  | _ => none }
def FnMostCommonResultModelWrongFalsely : Prop := fnMostCommonResultModelRow.holds Try.pinned (OpenSpec.ofChange fnMostCommonResultModelWrong)

/-- 'zzlaws_internal_txn_b1.FnMostCommonResultReversed': WHATEVER THE INPUT: true; the input reads as it did. -/
def fnMostCommonResultReversedSpec : ChangeSpec := { name := "fnMostCommonResultReversed", fn := fun _ => fun
  | [d] => { results := [.lit (.bool true)], args := [d] }
  | _ => none }
def fnMostCommonResultReversedRow : OpenClaim := { program := "qxb6601234a", sum := "db94fc6e4837b99f4912044f6da283bcfe5e0971371397f19648dd73286b5ec3", func := "example.com/slackline/slackline/zzlaws_internal_txn_b1.FnMostCommonResultReversed", spec := "fnMostCommonResultReversed", apart := false }
def FnMostCommonResultReversedSaid : Prop := fnMostCommonResultReversedRow.holds Try.pinned (OpenSpec.ofChange fnMostCommonResultReversedSpec)

/-- ITS FALSE NEIGHBOUR: 'it returns false'. Refute it at one input. -/
def fnMostCommonResultReversedWrong : ChangeSpec := { name := "fnMostCommonResultReversed", fn := fun _ => fun
  | [d] => { results := [.lit (.bool false)], args := [d] }
  | _ => none }
def FnMostCommonResultReversedWrongFalsely : Prop := fnMostCommonResultReversedRow.holds Try.pinned (OpenSpec.ofChange fnMostCommonResultReversedWrong)

/-- 'zzlaws_internal_txn_b1.FnMostCommonResultOneMoreVote': WHATEVER THE INPUT: true; the input reads as it did. -/
def fnMostCommonResultOneMoreVoteSpec : ChangeSpec := { name := "fnMostCommonResultOneMoreVote", fn := fun _ => fun
  | [d] => { results := [.lit (.bool true)], args := [d] }
  | _ => none }
def fnMostCommonResultOneMoreVoteRow : OpenClaim := { program := "qxb6601234a", sum := "db94fc6e4837b99f4912044f6da283bcfe5e0971371397f19648dd73286b5ec3", func := "example.com/slackline/slackline/zzlaws_internal_txn_b1.FnMostCommonResultOneMoreVote", spec := "fnMostCommonResultOneMoreVote", apart := false }
def FnMostCommonResultOneMoreVoteSaid : Prop := fnMostCommonResultOneMoreVoteRow.holds Try.pinned (OpenSpec.ofChange fnMostCommonResultOneMoreVoteSpec)

/-- ITS FALSE NEIGHBOUR: 'it returns false'. Refute it at one input. -/
def fnMostCommonResultOneMoreVoteWrong : ChangeSpec := { name := "fnMostCommonResultOneMoreVote", fn := fun _ => fun
  | [d] => { results := [.lit (.bool false)], args := [d] }
  | _ => none }
def FnMostCommonResultOneMoreVoteWrongFalsely : Prop := fnMostCommonResultOneMoreVoteRow.holds Try.pinned (OpenSpec.ofChange fnMostCommonResultOneMoreVoteWrong)

/-- 'zzlaws_internal_txn_b1.FnJoinShardsIsSortedUnion': WHATEVER THE INPUT: true; the input reads as it did. -/
def fnJoinShardsIsSortedUnionSpec : ChangeSpec := { name := "fnJoinShardsIsSortedUnion", fn := fun _ => fun
  | [d1, d2] => { results := [.lit (.bool true)], args := [d1, d2] }
  | _ => none }
def fnJoinShardsIsSortedUnionRow : OpenClaim := { program := "qxb6601234a", sum := "db94fc6e4837b99f4912044f6da283bcfe5e0971371397f19648dd73286b5ec3", func := "example.com/slackline/slackline/zzlaws_internal_txn_b1.FnJoinShardsIsSortedUnion", spec := "fnJoinShardsIsSortedUnion", apart := false }
def FnJoinShardsIsSortedUnionSaid : Prop := fnJoinShardsIsSortedUnionRow.holds Try.pinned (OpenSpec.ofChange fnJoinShardsIsSortedUnionSpec)

/-- ITS FALSE NEIGHBOUR: 'it returns false'. Refute it at one input. -/
def fnJoinShardsIsSortedUnionWrong : ChangeSpec := { name := "fnJoinShardsIsSortedUnion", fn := fun _ => fun
  | [d1, d2] => { results := [.lit (.bool false)], args := [d1, d2] }
  | _ => none }
def FnJoinShardsIsSortedUnionWrongFalsely : Prop := fnJoinShardsIsSortedUnionRow.holds Try.pinned (OpenSpec.ofChange fnJoinShardsIsSortedUnionWrong)

/-- 'zzlaws_internal_txn_b1.FnJoinShardsCommutes': WHATEVER THE INPUT: true; the input reads as it did. -/
def fnJoinShardsCommutesSpec : ChangeSpec := { name := "fnJoinShardsCommutes", fn := fun _ => fun
  | [d1, d2] => { results := [.lit (.bool true)], args := [d1, d2] }
  | _ => none }
def fnJoinShardsCommutesRow : OpenClaim := { program := "qxb6601234a", sum := "db94fc6e4837b99f4912044f6da283bcfe5e0971371397f19648dd73286b5ec3", func := "example.com/slackline/slackline/zzlaws_internal_txn_b1.FnJoinShardsCommutes", spec := "fnJoinShardsCommutes", apart := false }
def FnJoinShardsCommutesSaid : Prop := fnJoinShardsCommutesRow.holds Try.pinned (OpenSpec.ofChange fnJoinShardsCommutesSpec)

/-- ITS FALSE NEIGHBOUR: 'it returns false'. Refute it at one input. -/
def fnJoinShardsCommutesWrong : ChangeSpec := { name := "fnJoinShardsCommutes", fn := fun _ => fun
  | [d1, d2] => { results := [.lit (.bool false)], args := [d1, d2] }
  | _ => none }
def FnJoinShardsCommutesWrongFalsely : Prop := fnJoinShardsCommutesRow.holds Try.pinned (OpenSpec.ofChange fnJoinShardsCommutesWrong)

/-- 'zzlaws_internal_txn_b1.FnJoinShardsAssociates': WHATEVER THE INPUT: true; the input reads as it did. -/
def fnJoinShardsAssociatesSpec : ChangeSpec := { name := "fnJoinShardsAssociates", fn := fun _ => fun
  | [d1, d2, d3] => { results := [.lit (.bool true)], args := [d1, d2, d3] }
  | _ => none }
def fnJoinShardsAssociatesRow : OpenClaim := { program := "qxb6601234a", sum := "db94fc6e4837b99f4912044f6da283bcfe5e0971371397f19648dd73286b5ec3", func := "example.com/slackline/slackline/zzlaws_internal_txn_b1.FnJoinShardsAssociates", spec := "fnJoinShardsAssociates", apart := false }
def FnJoinShardsAssociatesSaid : Prop := fnJoinShardsAssociatesRow.holds Try.pinned (OpenSpec.ofChange fnJoinShardsAssociatesSpec)

/-- ITS FALSE NEIGHBOUR: 'it returns false'. Refute it at one input. -/
def fnJoinShardsAssociatesWrong : ChangeSpec := { name := "fnJoinShardsAssociates", fn := fun _ => fun
  | [d1, d2, d3] => { results := [.lit (.bool false)], args := [d1, d2, d3] }
  | _ => none }
def FnJoinShardsAssociatesWrongFalsely : Prop := fnJoinShardsAssociatesRow.holds Try.pinned (OpenSpec.ofChange fnJoinShardsAssociatesWrong)

end Rows
end Go.Proofs.Qxb6601234a
