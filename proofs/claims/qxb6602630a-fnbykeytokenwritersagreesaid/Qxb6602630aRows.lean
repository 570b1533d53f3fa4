/-
  No cell of these rows narrows 'for every input' (looked for: loops, veiled, ifaces, maps, wideKeys, modest, calm, conditions, laid).
  DERIVED. THE GIVEN ROWS OF THIS SEAT. 3 by the template 'for every input the law returns true; each argument reads behind the call as it read before'; 0 by the template 'total and deterministic' (their statements: Qxb6602630aTotals.lean).
  GIVEN WITH THE SEED: the statements are not yours to turn. If you find one false, say at which input.
  Laid BY PROGRAM, IN A SANDBOX (cutbox-rows.mjs): the forced cells as the released guide's own fill.sh prints them over the translation 87d191047f2cccc8… (all of the seat's roots in one cut). By AI agents, Wed Nov 11 2026. No macro, syntax, notation, axiom, sorry.
-/
import Derived.Test.Qxb6602630aChecked
import GoSem.Claim
import GoSem.ClaimJoined
import GoSem.ClaimMapViews
import Derived.JoinedTies
import Derived.KernelRfl
namespace Go.Proofs.Qxb6602630a
/- THE CELL 'sum', in the pinned program and in every row, IS THE sha256 OF THE DUMP (.gsa) THAT Qxb6602630aProg.lean LOADS. Nothing in Lean hashes anything: it is a label: what it is worth is what the hold of that sum in a sandbox is worth. -/
noncomputable def Try.pinned : Pinned := { name := "qxb6602630a", sum := "87d191047f2cccc8d2ff57a436633510607f9fe0328f2f70fa9e5263a5a5f9b8", checked := Try.checked }
namespace Rows
def none {H : Type} : Left H := { results := [], args := [] }

/-- 'zzlaws_internal_verify_b1.FnTokenWritersReverse': WHATEVER THE INPUT: true; the input reads as it did. -/
def fnTokenWritersReverseSpec : ChangeSpec := { name := "fnTokenWritersReverse", fn := fun _ => fun
  | [d] => { results := [.lit (.bool true)], args := [d] }
  | _ => none }
def fnTokenWritersReverseRow : OpenClaim := { program := "qxb6602630a", sum := "87d191047f2cccc8d2ff57a436633510607f9fe0328f2f70fa9e5263a5a5f9b8", func := "example.com/shardwright/shardwright/zzlaws_internal_verify_b1.FnTokenWritersReverse", spec := "fnTokenWritersReverse", inPlace := ["internal/bytealg.IndexByteString", "internal/bytealg.IndexString"], named := ["internal/bytealg.MaxLen"], apart := false }
def FnTokenWritersReverseSaid : Prop := fnTokenWritersReverseRow.holds Try.pinned (OpenSpec.ofChange fnTokenWritersReverseSpec)

/-- ITS FALSE NEIGHBOUR: 'it returns false'. Refute it at one input. -/
def fnTokenWritersReverseWrong : ChangeSpec := { name := "fnTokenWritersReverse", fn := fun _ => fun
  | [d] => { results := [.lit (.bool false)], args := [d] }
  | _ => none }
def FnTokenWritersReverseWrongFalsely : Prop := fnTokenWritersReverseRow.holds Try.pinned (OpenSpec.ofChange fnTokenWritersReverseWrong)

/-- 'zzlaws_internal_verify_b1.FnByKeySpec': WHATEVER THE INPUT: true; the input reads as it did. -/
def fnByKeySpecSpec : ChangeSpec := { name := "fnByKeySpec", fn := fun _ => fun
  | [d] => { results := [.lit (.bool true)], args := [d] }
  | _ => none }
def fnByKeySpecRow : OpenClaim := { program := "qxb6602630a", sum := "87d191047f2cccc8d2ff57a436633510607f9fe0328f2f70fa9e5263a5a5f9b8", func := "example.com/shardwright/shardwright/zzlaws_internal_verify_b1.FnByKeySpec", spec := "fnByKeySpec", apart := false }
def FnByKeySpecSaid : Prop := fnByKeySpecRow.holds Try.pinned (OpenSpec.ofChange fnByKeySpecSpec)

/-- ITS FALSE NEIGHBOUR: 'it returns false'. Refute it at one input. -/
def fnByKeySpecWrong : ChangeSpec := { name := "fnByKeySpec", fn := fun _ => fun
  | [d] => { results := [.lit (.bool false)], args := [d] }
  | _ => none }
def FnByKeySpecWrongFalsely : Prop := fnByKeySpecRow.holds Try.pinned (OpenSpec.ofChange fnByKeySpecWrong)

/-- 'zzlaws_internal_verify_b1.FnByKeyTokenWritersAgree': WHATEVER THE INPUT: true; the input reads as it did. -/
def fnByKeyTokenWritersAgreeSpec : ChangeSpec := { name := "fnByKeyTokenWritersAgree", fn := fun _ => fun
  | [d] => { results := [.lit (.bool true)], args := [d] }
  | _ => none }
def fnByKeyTokenWritersAgreeRow : OpenClaim := { program := "qxb6602630a", sum := "87d191047f2cccc8d2ff57a436633510607f9fe0328f2f70fa9e5263a5a5f9b8", func := "example.com/shardwright/shardwright/zzlaws_internal_verify_b1.FnByKeyTokenWritersAgree", spec := "fnByKeyTokenWritersAgree", inPlace := ["internal/bytealg.IndexByteString", "internal/bytealg.IndexString"], named := ["internal/bytealg.MaxLen"], apart := false }
def FnByKeyTokenWritersAgreeSaid : Prop := fnByKeyTokenWritersAgreeRow.holds Try.pinned (OpenSpec.ofChange fnByKeyTokenWritersAgreeSpec)

/-- ITS FALSE NEIGHBOUR: 'it returns false'. Refute it at one input. -/
def fnByKeyTokenWritersAgreeWrong : ChangeSpec := { name := "fnByKeyTokenWritersAgree", fn := fun _ => fun
  | [d] => { results := [.lit (.bool false)], args := [d] }
  | _ => none }
def FnByKeyTokenWritersAgreeWrongFalsely : Prop := fnByKeyTokenWritersAgreeRow.holds Try.pinned (OpenSpec.ofChange fnByKeyTokenWritersAgreeWrong)

end Rows
end Go.Proofs.Qxb6602630a
