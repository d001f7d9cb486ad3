/-
  No cell of these rows narrows 'for every input' (looked for: loops, veiled, ifaces, maps, wideKeys, modest, calm, conditions, laid).
  DERIVED. THE GIVEN ROWS OF THIS SEAT. 4 by the template 'for every input the law returns true; each argument reads behind the call as it read before'; 0 by the template 'total and deterministic' (their statements: Qxb6614451aTotals.lean).
  GIVEN WITH THE SEED: the statements are not yours to turn. If you find one false, say at which input.
  Laid BY PROGRAM, IN A SANDBOX (cutbox-rows.mjs): the forced cells as the released guide's own fill.sh prints them over the translation 3aaddba9b420e683… (all of the seat's roots in one cut). By AI agents, Wed Nov 11 2026. No macro, syntax, notation, axiom, sorry.
-/
import Derived.Test.Qxb6614451aChecked
import GoSem.Claim
import GoSem.ClaimJoined
import GoSem.ClaimMapViews
import Derived.JoinedTies
import Derived.KernelRfl
namespace Go.Proofs.Qxb6614451a
/- THE CELL 'sum', in the pinned program and in every row, IS THE sha256 OF THE DUMP (.gsa) THAT Qxb6614451aProg.lean LOADS. Nothing in Lean hashes anything: it is a label: what it is worth is what the hold of that sum in a sandbox is worth. -/
noncomputable def Try.pinned : Pinned := { name := "qxb6614451a", sum := "3aaddba9b420e683d4139090a05ee0e65d56a05f8267f77b66f0d91d04e7e06c", checked := Try.checked }
namespace Rows
def none {H : Type} : Left H := { results := [], args := [] }

/-- 'zzlaws_root_b1.FnLinkReusesFreedEntriesLatestFirst': WHATEVER THE INPUT: true; the input reads as it did. -/
def fnLinkReusesFreedEntriesLatestFirstSpec : ChangeSpec := { name := "fnLinkReusesFreedEntriesLatestFirst", fn := fun _ => fun
  | [d] => { results := [.lit (.bool true)], args := [d] }
  | _ => none }
def fnLinkReusesFreedEntriesLatestFirstRow : OpenClaim := { program := "qxb6614451a", sum := "3aaddba9b420e683d4139090a05ee0e65d56a05f8267f77b66f0d91d04e7e06c", func := "example.com/knotseer/knotseer/zzlaws_root_b1.FnLinkReusesFreedEntriesLatestFirst", spec := "fnLinkReusesFreedEntriesLatestFirst", plainKeys := false, apart := false }
def FnLinkReusesFreedEntriesLatestFirstSaid : Prop := fnLinkReusesFreedEntriesLatestFirstRow.holds Try.pinned (OpenSpec.ofChange fnLinkReusesFreedEntriesLatestFirstSpec)

/-- ITS FALSE NEIGHBOUR: 'it returns false'. Refute it at one input. -/
def fnLinkReusesFreedEntriesLatestFirstWrong : ChangeSpec := { name := "fnLinkReusesFreedEntriesLatestFirst", fn := fun _ => fun
  | [d] => { results := [.lit (.bool false)], args := [d] }
  | _ => none }
def FnLinkReusesFreedEntriesLatestFirstWrongFalsely : Prop := fnLinkReusesFreedEntriesLatestFirstRow.holds Try.pinned (OpenSpec.ofChange fnLinkReusesFreedEntriesLatestFirstWrong)

/-- 'zzlaws_root_b1.FnLinkNeverOutgrowsThePeakOfLiveEntries': WHATEVER THE INPUT: true; the input reads as it did. -/
def fnLinkNeverOutgrowsThePeakOfLiveEntriesSpec : ChangeSpec := { name := "fnLinkNeverOutgrowsThePeakOfLiveEntries", fn := fun _ => fun
  | [d] => { results := [.lit (.bool true)], args := [d] }
  | _ => none }
def fnLinkNeverOutgrowsThePeakOfLiveEntriesRow : OpenClaim := { program := "qxb6614451a", sum := "3aaddba9b420e683d4139090a05ee0e65d56a05f8267f77b66f0d91d04e7e06c", func := "example.com/knotseer/knotseer/zzlaws_root_b1.FnLinkNeverOutgrowsThePeakOfLiveEntries", spec := "fnLinkNeverOutgrowsThePeakOfLiveEntries", plainKeys := false, apart := false }
def FnLinkNeverOutgrowsThePeakOfLiveEntriesSaid : Prop := fnLinkNeverOutgrowsThePeakOfLiveEntriesRow.holds Try.pinned (OpenSpec.ofChange fnLinkNeverOutgrowsThePeakOfLiveEntriesSpec)

/-- ITS FALSE NEIGHBOUR: 'it returns false'. Refute it at one input. -/
def fnLinkNeverOutgrowsThePeakOfLiveEntriesWrong : ChangeSpec := { name := "fnLinkNeverOutgrowsThePeakOfLiveEntries", fn := fun _ => fun
  | [d] => { results := [.lit (.bool false)], args := [d] }
  | _ => none }
def FnLinkNeverOutgrowsThePeakOfLiveEntriesWrongFalsely : Prop := fnLinkNeverOutgrowsThePeakOfLiveEntriesRow.holds Try.pinned (OpenSpec.ofChange fnLinkNeverOutgrowsThePeakOfLiveEntriesWrong)

/-- 'zzlaws_root_b1.FnEachHolderReportsLiveTrialsAndFreesStaleOnes': WHATEVER THE INPUT: true; the input reads as it did. -/
def fnEachHolderReportsLiveTrialsAndFreesStaleOnesSpec : ChangeSpec := { name := "fnEachHolderReportsLiveTrialsAndFreesStaleOnes", fn := fun _ => fun
  | [d1, d2, d3, d4, d5, d6, d7, d8, d9, d10] => { results := [.lit (.bool true)], args := [d1, d2, d3, d4, d5, d6, d7, d8, d9, d10] }
  | _ => none }
def fnEachHolderReportsLiveTrialsAndFreesStaleOnesRow : OpenClaim := { program := "qxb6614451a", sum := "3aaddba9b420e683d4139090a05ee0e65d56a05f8267f77b66f0d91d04e7e06c", func := "example.com/knotseer/knotseer/zzlaws_root_b1.FnEachHolderReportsLiveTrialsAndFreesStaleOnes", spec := "fnEachHolderReportsLiveTrialsAndFreesStaleOnes", unfollowed := true, recurses := true, plainKeys := false, apart := false }
def FnEachHolderReportsLiveTrialsAndFreesStaleOnesSaid : Prop := fnEachHolderReportsLiveTrialsAndFreesStaleOnesRow.holds Try.pinned (OpenSpec.ofChange fnEachHolderReportsLiveTrialsAndFreesStaleOnesSpec)

/-- ITS FALSE NEIGHBOUR: 'it returns false'. Refute it at one input. -/
def fnEachHolderReportsLiveTrialsAndFreesStaleOnesWrong : ChangeSpec := { name := "fnEachHolderReportsLiveTrialsAndFreesStaleOnes", fn := fun _ => fun
  | [d1, d2, d3, d4, d5, d6, d7, d8, d9, d10] => { results := [.lit (.bool false)], args := [d1, d2, d3, d4, d5, d6, d7, d8, d9, d10] }
  | _ => none }
def FnEachHolderReportsLiveTrialsAndFreesStaleOnesWrongFalsely : Prop := fnEachHolderReportsLiveTrialsAndFreesStaleOnesRow.holds Try.pinned (OpenSpec.ofChange fnEachHolderReportsLiveTrialsAndFreesStaleOnesWrong)

/-- 'zzlaws_root_b1.FnHasEndedTellsExactlyTheRecordedEnds': WHATEVER THE INPUT: true; the input reads as it did. -/
def fnHasEndedTellsExactlyTheRecordedEndsSpec : ChangeSpec := { name := "fnHasEndedTellsExactlyTheRecordedEnds", fn := fun _ => fun
  | [d1, d2] => { results := [.lit (.bool true)], args := [d1, d2] }
  | _ => none }
def fnHasEndedTellsExactlyTheRecordedEndsRow : OpenClaim := { program := "qxb6614451a", sum := "3aaddba9b420e683d4139090a05ee0e65d56a05f8267f77b66f0d91d04e7e06c", func := "example.com/knotseer/knotseer/zzlaws_root_b1.FnHasEndedTellsExactlyTheRecordedEnds", spec := "fnHasEndedTellsExactlyTheRecordedEnds", plainKeys := false, apart := false }
def FnHasEndedTellsExactlyTheRecordedEndsSaid : Prop := fnHasEndedTellsExactlyTheRecordedEndsRow.holds Try.pinned (OpenSpec.ofChange fnHasEndedTellsExactlyTheRecordedEndsSpec)

/-- ITS FALSE NEIGHBOUR: 'it returns false'. Refute it at one input. -/
def fnHasEndedTellsExactlyTheRecordedEndsWrong : ChangeSpec := { name := "fnHasEndedTellsExactlyTheRecordedEnds", fn := fun _ => fun
  | [d1, d2] => { results := [.lit (.bool false)], args := [d1, d2] }
  | _ => none }
def FnHasEndedTellsExactlyTheRecordedEndsWrongFalsely : Prop := fnHasEndedTellsExactlyTheRecordedEndsRow.holds Try.pinned (OpenSpec.ofChange fnHasEndedTellsExactlyTheRecordedEndsWrong)

end Rows
end Go.Proofs.Qxb6614451a
