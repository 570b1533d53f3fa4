/-
  No cell of these rows narrows 'for every input' (looked for: loops, veiled, ifaces, maps, wideKeys, modest, calm, conditions, laid).
  DERIVED. THE GIVEN ROWS OF THIS SEAT. 4 by the template 'for every input the law returns true; each argument reads behind the call as it read before'; 0 by the template 'total and deterministic' (their statements: Qxb6602423aTotals.lean).
  GIVEN WITH THE SEED: the statements are not yours to turn. If you find one false, say at which input.
  Laid BY PROGRAM, IN A SANDBOX (cutbox-rows.mjs): the forced cells as the released guide's own fill.sh prints them over the translation ff2a6e762e7721ac… (all of the seat's roots in one cut). By AI agents, Wed Nov 11 2026. No macro, syntax, notation, axiom, sorry.
-/
import Derived.Test.Qxb6602423aChecked
import GoSem.Claim
import GoSem.ClaimJoined
import GoSem.ClaimMapViews
import Derived.JoinedTies
import Derived.KernelRfl
namespace Go.Proofs.Qxb6602423a
/- THE CELL 'sum', in the pinned program and in every row, IS THE sha256 OF THE DUMP (.gsa) THAT Qxb6602423aProg.lean LOADS. Nothing in Lean hashes anything: it is a label: what it is worth is what the hold of that sum in a sandbox is worth. -/
noncomputable def Try.pinned : Pinned := { name := "qxb6602423a", sum := "ff2a6e762e7721ac8cc6b93e2dfd49c9af05542ec40740ebefed9ee9772f5a19", checked := Try.checked }
namespace Rows
def none {H : Type} : Left H := { results := [], args := [] }

/-- 'zzlaws_internal_sqlscript_b1.FnSkipBlankMatchesModel': WHATEVER THE INPUT: true; the input reads as it did. -/
def fnSkipBlankMatchesModelSpec : ChangeSpec := { name := "fnSkipBlankMatchesModel", fn := fun _ => fun
  | [d1, d2, d3, d4, d5] => { results := [.lit (.bool true)], args := [d1, d2, d3, d4, d5] }
  | _ => none }
def fnSkipBlankMatchesModelRow : OpenClaim := { program := "qxb6602423a", sum := "ff2a6e762e7721ac8cc6b93e2dfd49c9af05542ec40740ebefed9ee9772f5a19", func := "example.com/vtdb/vtdb/zzlaws_internal_sqlscript_b1.FnSkipBlankMatchesModel", spec := "fnSkipBlankMatchesModel", inPlace := ["internal/bytealg.IndexByteString"], recurses := true, apart := false }
def FnSkipBlankMatchesModelSaid : Prop := fnSkipBlankMatchesModelRow.holds Try.pinned (OpenSpec.ofChange fnSkipBlankMatchesModelSpec)

/-- ITS FALSE NEIGHBOUR: 'it returns false'. Refute it at one input. -/
def fnSkipBlankMatchesModelWrong : ChangeSpec := { name := "fnSkipBlankMatchesModel", fn := fun _ => fun
  | [d1, d2, d3, d4, d5] => { results := [.lit (.bool false)], args := [d1, d2, d3, d4, d5] }
  | _ => none }
def FnSkipBlankMatchesModelWrongFalsely : Prop := fnSkipBlankMatchesModelRow.holds Try.pinned (OpenSpec.ofChange fnSkipBlankMatchesModelWrong)

/-- 'zzlaws_internal_sqlscript_b1.FnSkipBlankRunsToAToken': WHATEVER THE INPUT: true; the input reads as it did. -/
def fnSkipBlankRunsToATokenSpec : ChangeSpec := { name := "fnSkipBlankRunsToAToken", fn := fun _ => fun
  | [d1, d2] => { results := [.lit (.bool true)], args := [d1, d2] }
  | _ => none }
def fnSkipBlankRunsToATokenRow : OpenClaim := { program := "qxb6602423a", sum := "ff2a6e762e7721ac8cc6b93e2dfd49c9af05542ec40740ebefed9ee9772f5a19", func := "example.com/vtdb/vtdb/zzlaws_internal_sqlscript_b1.FnSkipBlankRunsToAToken", spec := "fnSkipBlankRunsToAToken", inPlace := ["internal/bytealg.IndexByteString"], apart := false }
def FnSkipBlankRunsToATokenSaid : Prop := fnSkipBlankRunsToATokenRow.holds Try.pinned (OpenSpec.ofChange fnSkipBlankRunsToATokenSpec)

/-- ITS FALSE NEIGHBOUR: 'it returns false'. Refute it at one input. -/
def fnSkipBlankRunsToATokenWrong : ChangeSpec := { name := "fnSkipBlankRunsToAToken", fn := fun _ => fun
  | [d1, d2] => { results := [.lit (.bool false)], args := [d1, d2] }
  | _ => none }
def FnSkipBlankRunsToATokenWrongFalsely : Prop := fnSkipBlankRunsToATokenRow.holds Try.pinned (OpenSpec.ofChange fnSkipBlankRunsToATokenWrong)

/-- 'zzlaws_internal_sqlscript_b1.FnMetaCommandStaysOnItsLine': WHATEVER THE INPUT: true; the input reads as it did. -/
def fnMetaCommandStaysOnItsLineSpec : ChangeSpec := { name := "fnMetaCommandStaysOnItsLine", fn := fun _ => fun
  | [d1, d2] => { results := [.lit (.bool true)], args := [d1, d2] }
  | _ => none }
def fnMetaCommandStaysOnItsLineRow : OpenClaim := { program := "qxb6602423a", sum := "ff2a6e762e7721ac8cc6b93e2dfd49c9af05542ec40740ebefed9ee9772f5a19", func := "example.com/vtdb/vtdb/zzlaws_internal_sqlscript_b1.FnMetaCommandStaysOnItsLine", spec := "fnMetaCommandStaysOnItsLine", apart := false }
def FnMetaCommandStaysOnItsLineSaid : Prop := fnMetaCommandStaysOnItsLineRow.holds Try.pinned (OpenSpec.ofChange fnMetaCommandStaysOnItsLineSpec)

/-- ITS FALSE NEIGHBOUR: 'it returns false'. Refute it at one input. -/
def fnMetaCommandStaysOnItsLineWrong : ChangeSpec := { name := "fnMetaCommandStaysOnItsLine", fn := fun _ => fun
  | [d1, d2] => { results := [.lit (.bool false)], args := [d1, d2] }
  | _ => none }
def FnMetaCommandStaysOnItsLineWrongFalsely : Prop := fnMetaCommandStaysOnItsLineRow.holds Try.pinned (OpenSpec.ofChange fnMetaCommandStaysOnItsLineWrong)

/-- 'zzlaws_internal_sqlscript_b1.FnMetaCommandReadsOnlyItsLine': WHATEVER THE INPUT: true; the input reads as it did. -/
def fnMetaCommandReadsOnlyItsLineSpec : ChangeSpec := { name := "fnMetaCommandReadsOnlyItsLine", fn := fun _ => fun
  | [d1, d2, d3] => { results := [.lit (.bool true)], args := [d1, d2, d3] }
  | _ => none }
def fnMetaCommandReadsOnlyItsLineRow : OpenClaim := { program := "qxb6602423a", sum := "ff2a6e762e7721ac8cc6b93e2dfd49c9af05542ec40740ebefed9ee9772f5a19", func := "example.com/vtdb/vtdb/zzlaws_internal_sqlscript_b1.FnMetaCommandReadsOnlyItsLine", spec := "fnMetaCommandReadsOnlyItsLine", apart := false }
def FnMetaCommandReadsOnlyItsLineSaid : Prop := fnMetaCommandReadsOnlyItsLineRow.holds Try.pinned (OpenSpec.ofChange fnMetaCommandReadsOnlyItsLineSpec)

/-- ITS FALSE NEIGHBOUR: 'it returns false'. Refute it at one input. -/
def fnMetaCommandReadsOnlyItsLineWrong : ChangeSpec := { name := "fnMetaCommandReadsOnlyItsLine", fn := fun _ => fun
  | [d1, d2, d3] => { results := [.lit (.bool false)], args := [d1, d2, d3] }
  | _ => none }
def FnMetaCommandReadsOnlyItsLineWrongFalsely : Prop := fnMetaCommandReadsOnlyItsLineRow.holds Try.pinned (OpenSpec.ofChange fnMetaCommandReadsOnlyItsLineWrong)

end Rows
end Go.Proofs.Qxb6602423a
