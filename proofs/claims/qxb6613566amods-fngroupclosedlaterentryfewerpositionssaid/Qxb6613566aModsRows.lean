/-
  No cell of these rows narrows 'for every input' (looked for: loops, veiled, ifaces, maps, wideKeys, modest, calm, conditions, laid).
  DERIVED. THE GIVEN ROWS OF THIS SEAT. 6 by the template 'for every input the law returns true; each argument reads behind the call as it read before'; 0 by the template 'total and deterministic' (their statements: Qxb6613566aModsTotals.lean).
  GIVEN WITH THE SEED: the statements are not yours to turn. If you find one false, say at which input.
  Laid BY PROGRAM, IN A SANDBOX (cutbox-rows.mjs): the forced cells as the released guide's own fill.sh prints them over the translation aad1aa2222415e85… (all of the seat's roots in one cut). By AI agents, Wed Nov 11 2026. No macro, syntax, notation, axiom, sorry.
-/
import Derived.Test.Qxb6613566aModsChecked
import GoSem.Claim
import GoSem.ClaimJoined
import GoSem.ClaimMapViews
import Derived.JoinedTies
import Derived.KernelRfl
namespace Go.Proofs.Qxb6613566aMods
/- THE CELL 'sum', in the pinned program and in every row, IS THE sha256 OF THE DUMP (.gsa) THAT Qxb6613566aModsProg.lean LOADS. Nothing in Lean hashes anything: it is a label: what it is worth is what the hold of that sum in a sandbox is worth. -/
noncomputable def Trym.pinned : Pinned := { name := "qxb6613566amods", sum := "aad1aa2222415e859991f3bd4fe3c72e9f56fe1ec0d63570c0c4afd3f5a7fc31", checked := Trym.checked }
namespace Rows
def none {H : Type} : Left H := { results := [], args := [] }

/-- 'zzlaws_internal_journal_b1.FnGroupClosedFromItsEntryOn': WHATEVER THE INPUT: true; the input reads as it did. -/
def fnGroupClosedFromItsEntryOnSpec : ChangeSpec := { name := "fnGroupClosedFromItsEntryOn", fn := fun _ => fun
  | [d1, d2, d3, d4] => { results := [.lit (.bool true)], args := [d1, d2, d3, d4] }
  | _ => none }
def fnGroupClosedFromItsEntryOnRow : OpenClaim := { program := "qxb6613566amods", sum := "aad1aa2222415e859991f3bd4fe3c72e9f56fe1ec0d63570c0c4afd3f5a7fc31", func := "example.com/nacre/nacre/zzlaws_internal_journal_b1.FnGroupClosedFromItsEntryOn", spec := "fnGroupClosedFromItsEntryOn", make := .lifted ["publicsums"], apart := false }
def FnGroupClosedFromItsEntryOnSaid : Prop := fnGroupClosedFromItsEntryOnRow.holds Trym.pinned (OpenSpec.ofChange fnGroupClosedFromItsEntryOnSpec)

/-- ITS FALSE NEIGHBOUR: 'it returns false'. Refute it at one input. -/
def fnGroupClosedFromItsEntryOnWrong : ChangeSpec := { name := "fnGroupClosedFromItsEntryOn", fn := fun _ => fun
  | [d1, d2, d3, d4] => { results := [.lit (.bool false)], args := [d1, d2, d3, d4] }
  | _ => none }
def FnGroupClosedFromItsEntryOnWrongFalsely : Prop := fnGroupClosedFromItsEntryOnRow.holds Trym.pinned (OpenSpec.ofChange fnGroupClosedFromItsEntryOnWrong)

/-- 'zzlaws_internal_journal_b1.FnGroupClosedLaterEntryFewerPositions': WHATEVER THE INPUT: true; the input reads as it did. -/
def fnGroupClosedLaterEntryFewerPositionsSpec : ChangeSpec := { name := "fnGroupClosedLaterEntryFewerPositions", fn := fun _ => fun
  | [d1, d2, d3, d4, d5] => { results := [.lit (.bool true)], args := [d1, d2, d3, d4, d5] }
  | _ => none }
def fnGroupClosedLaterEntryFewerPositionsRow : OpenClaim := { program := "qxb6613566amods", sum := "aad1aa2222415e859991f3bd4fe3c72e9f56fe1ec0d63570c0c4afd3f5a7fc31", func := "example.com/nacre/nacre/zzlaws_internal_journal_b1.FnGroupClosedLaterEntryFewerPositions", spec := "fnGroupClosedLaterEntryFewerPositions", make := .lifted ["publicsums"], apart := false }
def FnGroupClosedLaterEntryFewerPositionsSaid : Prop := fnGroupClosedLaterEntryFewerPositionsRow.holds Trym.pinned (OpenSpec.ofChange fnGroupClosedLaterEntryFewerPositionsSpec)

/-- ITS FALSE NEIGHBOUR: 'it returns false'. Refute it at one input. -/
def fnGroupClosedLaterEntryFewerPositionsWrong : ChangeSpec := { name := "fnGroupClosedLaterEntryFewerPositions", fn := fun _ => fun
  | [d1, d2, d3, d4, d5] => { results := [.lit (.bool false)], args := [d1, d2, d3, d4, d5] }
  | _ => none }
def FnGroupClosedLaterEntryFewerPositionsWrongFalsely : Prop := fnGroupClosedLaterEntryFewerPositionsRow.holds Trym.pinned (OpenSpec.ofChange fnGroupClosedLaterEntryFewerPositionsWrong)

/-- 'zzlaws_internal_journal_b1.FnVotersSplitAtAnyCut': WHATEVER THE INPUT: true; the input reads as it did. -/
def fnVotersSplitAtAnyCutSpec : ChangeSpec := { name := "fnVotersSplitAtAnyCut", fn := fun _ => fun
  | [d1, d2] => { results := [.lit (.bool true)], args := [d1, d2] }
  | _ => none }
def fnVotersSplitAtAnyCutRow : OpenClaim := { program := "qxb6613566amods", sum := "aad1aa2222415e859991f3bd4fe3c72e9f56fe1ec0d63570c0c4afd3f5a7fc31", func := "example.com/nacre/nacre/zzlaws_internal_journal_b1.FnVotersSplitAtAnyCut", spec := "fnVotersSplitAtAnyCut", unfollowed := true, recurses := true, make := .lifted ["publicsums"], apart := false }
def FnVotersSplitAtAnyCutSaid : Prop := fnVotersSplitAtAnyCutRow.holds Trym.pinned (OpenSpec.ofChange fnVotersSplitAtAnyCutSpec)

/-- ITS FALSE NEIGHBOUR: 'it returns false'. Refute it at one input. -/
def fnVotersSplitAtAnyCutWrong : ChangeSpec := { name := "fnVotersSplitAtAnyCut", fn := fun _ => fun
  | [d1, d2] => { results := [.lit (.bool false)], args := [d1, d2] }
  | _ => none }
def FnVotersSplitAtAnyCutWrongFalsely : Prop := fnVotersSplitAtAnyCutRow.holds Trym.pinned (OpenSpec.ofChange fnVotersSplitAtAnyCutWrong)

/-- 'zzlaws_internal_journal_b1.FnVotersLeavesRosterAndIsItsOwn': WHATEVER THE INPUT: true; the input reads as it did. -/
def fnVotersLeavesRosterAndIsItsOwnSpec : ChangeSpec := { name := "fnVotersLeavesRosterAndIsItsOwn", fn := fun _ => fun
  | [d] => { results := [.lit (.bool true)], args := [d] }
  | _ => none }
def fnVotersLeavesRosterAndIsItsOwnRow : OpenClaim := { program := "qxb6613566amods", sum := "aad1aa2222415e859991f3bd4fe3c72e9f56fe1ec0d63570c0c4afd3f5a7fc31", func := "example.com/nacre/nacre/zzlaws_internal_journal_b1.FnVotersLeavesRosterAndIsItsOwn", spec := "fnVotersLeavesRosterAndIsItsOwn", unfollowed := true, recurses := true, make := .lifted ["publicsums"], apart := false }
def FnVotersLeavesRosterAndIsItsOwnSaid : Prop := fnVotersLeavesRosterAndIsItsOwnRow.holds Trym.pinned (OpenSpec.ofChange fnVotersLeavesRosterAndIsItsOwnSpec)

/-- ITS FALSE NEIGHBOUR: 'it returns false'. Refute it at one input. -/
def fnVotersLeavesRosterAndIsItsOwnWrong : ChangeSpec := { name := "fnVotersLeavesRosterAndIsItsOwn", fn := fun _ => fun
  | [d] => { results := [.lit (.bool false)], args := [d] }
  | _ => none }
def FnVotersLeavesRosterAndIsItsOwnWrongFalsely : Prop := fnVotersLeavesRosterAndIsItsOwnRow.holds Trym.pinned (OpenSpec.ofChange fnVotersLeavesRosterAndIsItsOwnWrong)

/-- 'zzlaws_internal_journal_b1.FnSessionsNoteAgreesWithTable': WHATEVER THE INPUT: true; the input reads as it did. -/
def fnSessionsNoteAgreesWithTableSpec : ChangeSpec := { name := "fnSessionsNoteAgreesWithTable", fn := fun _ => fun
  | [d1, d2] => { results := [.lit (.bool true)], args := [d1, d2] }
  | _ => none }
def fnSessionsNoteAgreesWithTableRow : OpenClaim := { program := "qxb6613566amods", sum := "aad1aa2222415e859991f3bd4fe3c72e9f56fe1ec0d63570c0c4afd3f5a7fc31", func := "example.com/nacre/nacre/zzlaws_internal_journal_b1.FnSessionsNoteAgreesWithTable", spec := "fnSessionsNoteAgreesWithTable", unfollowed := true, recurses := true, make := .lifted ["publicsums"], apart := false }
def FnSessionsNoteAgreesWithTableSaid : Prop := fnSessionsNoteAgreesWithTableRow.holds Trym.pinned (OpenSpec.ofChange fnSessionsNoteAgreesWithTableSpec)

/-- ITS FALSE NEIGHBOUR: 'it returns false'. Refute it at one input. -/
def fnSessionsNoteAgreesWithTableWrong : ChangeSpec := { name := "fnSessionsNoteAgreesWithTable", fn := fun _ => fun
  | [d1, d2] => { results := [.lit (.bool false)], args := [d1, d2] }
  | _ => none }
def FnSessionsNoteAgreesWithTableWrongFalsely : Prop := fnSessionsNoteAgreesWithTableRow.holds Trym.pinned (OpenSpec.ofChange fnSessionsNoteAgreesWithTableWrong)

/-- 'zzlaws_internal_journal_b1.FnSessionsNoteKeepsLatestClients': WHATEVER THE INPUT: true; the input reads as it did. -/
def fnSessionsNoteKeepsLatestClientsSpec : ChangeSpec := { name := "fnSessionsNoteKeepsLatestClients", fn := fun _ => fun
  | [d1, d2] => { results := [.lit (.bool true)], args := [d1, d2] }
  | _ => none }
def fnSessionsNoteKeepsLatestClientsRow : OpenClaim := { program := "qxb6613566amods", sum := "aad1aa2222415e859991f3bd4fe3c72e9f56fe1ec0d63570c0c4afd3f5a7fc31", func := "example.com/nacre/nacre/zzlaws_internal_journal_b1.FnSessionsNoteKeepsLatestClients", spec := "fnSessionsNoteKeepsLatestClients", unfollowed := true, recurses := true, make := .lifted ["publicsums"], apart := false }
def FnSessionsNoteKeepsLatestClientsSaid : Prop := fnSessionsNoteKeepsLatestClientsRow.holds Trym.pinned (OpenSpec.ofChange fnSessionsNoteKeepsLatestClientsSpec)

/-- ITS FALSE NEIGHBOUR: 'it returns false'. Refute it at one input. -/
def fnSessionsNoteKeepsLatestClientsWrong : ChangeSpec := { name := "fnSessionsNoteKeepsLatestClients", fn := fun _ => fun
  | [d1, d2] => { results := [.lit (.bool false)], args := [d1, d2] }
  | _ => none }
def FnSessionsNoteKeepsLatestClientsWrongFalsely : Prop := fnSessionsNoteKeepsLatestClientsRow.holds Trym.pinned (OpenSpec.ofChange fnSessionsNoteKeepsLatestClientsWrong)

end Rows
end Go.Proofs.Qxb6613566aMods
