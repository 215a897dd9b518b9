/-
  No cell of these rows narrows 'for every input' (looked for: loops, veiled, ifaces, maps, wideKeys, modest, calm, conditions, laid).
  DERIVED. THE GIVEN ROWS OF THIS SEAT. 4 by the template 'for every input the law returns true; each argument reads behind the call as it read before'; 0 by the template 'total and deterministic' (their statements: Qxb6613243aTotals.lean).
  GIVEN WITH THE SEED: the statements are not yours to turn. If you find one false, say at which input.
  Laid BY PROGRAM, IN A SANDBOX (cutbox-rows.mjs): the forced cells as the released guide's own fill.sh prints them over the translation 71b1a01b7cc6cef8… (all of the seat's roots in one cut). By AI agents, Wed Nov 11 2026. No macro, syntax, notation, axiom, sorry.
-/
import Derived.Test.Qxb6613243aChecked
import GoSem.Claim
import GoSem.ClaimJoined
import GoSem.ClaimMapViews
import Derived.JoinedTies
import Derived.KernelRfl
namespace Go.Proofs.Qxb6613243a
/- THE CELL 'sum', in the pinned program and in every row, IS THE sha256 OF THE DUMP (.gsa) THAT Qxb6613243aProg.lean LOADS. Nothing in Lean hashes anything: it is a label: what it is worth is what the hold of that sum in a sandbox is worth. -/
noncomputable def Try.pinned : Pinned := { name := "qxb6613243a", sum := "71b1a01b7cc6cef8de8f28e74a53fcf454d4f9856b44fd9cab3e0a5ae511f7c8", checked := Try.checked }
namespace Rows
def none {H : Type} : Left H := { results := [], args := [] }

/-- 'zzlaws_root_b1.FnStartsWordSixtyFourBreakersAnywhere': WHATEVER THE INPUT: true; the input reads as it did. -/
def fnStartsWordSixtyFourBreakersAnywhereSpec : ChangeSpec := { name := "fnStartsWordSixtyFourBreakersAnywhere", fn := fun _ => fun
  | [d1, d2] => { results := [.lit (.bool true)], args := [d1, d2] }
  | _ => none }
def fnStartsWordSixtyFourBreakersAnywhereRow : OpenClaim := { program := "qxb6613243a", sum := "71b1a01b7cc6cef8de8f28e74a53fcf454d4f9856b44fd9cab3e0a5ae511f7c8", func := "example.com/impartial-grants/impartial-grants/zzlaws_root_b1.FnStartsWordSixtyFourBreakersAnywhere", spec := "fnStartsWordSixtyFourBreakersAnywhere", apart := false }
def FnStartsWordSixtyFourBreakersAnywhereSaid : Prop := fnStartsWordSixtyFourBreakersAnywhereRow.holds Try.pinned (OpenSpec.ofChange fnStartsWordSixtyFourBreakersAnywhereSpec)

/-- ITS FALSE NEIGHBOUR: 'it returns false'. Refute it at one input. -/
def fnStartsWordSixtyFourBreakersAnywhereWrong : ChangeSpec := { name := "fnStartsWordSixtyFourBreakersAnywhere", fn := fun _ => fun
  | [d1, d2] => { results := [.lit (.bool false)], args := [d1, d2] }
  | _ => none }
def FnStartsWordSixtyFourBreakersAnywhereWrongFalsely : Prop := fnStartsWordSixtyFourBreakersAnywhereRow.holds Try.pinned (OpenSpec.ofChange fnStartsWordSixtyFourBreakersAnywhereWrong)

/-- 'zzlaws_root_b1.FnStartsWordCutAndInsert': WHATEVER THE INPUT: true; the input reads as it did. -/
def fnStartsWordCutAndInsertSpec : ChangeSpec := { name := "fnStartsWordCutAndInsert", fn := fun _ => fun
  | [d1, d2] => { results := [.lit (.bool true)], args := [d1, d2] }
  | _ => none }
def fnStartsWordCutAndInsertRow : OpenClaim := { program := "qxb6613243a", sum := "71b1a01b7cc6cef8de8f28e74a53fcf454d4f9856b44fd9cab3e0a5ae511f7c8", func := "example.com/impartial-grants/impartial-grants/zzlaws_root_b1.FnStartsWordCutAndInsert", spec := "fnStartsWordCutAndInsert", apart := false }
def FnStartsWordCutAndInsertSaid : Prop := fnStartsWordCutAndInsertRow.holds Try.pinned (OpenSpec.ofChange fnStartsWordCutAndInsertSpec)

/-- ITS FALSE NEIGHBOUR: 'it returns false'. Refute it at one input. -/
def fnStartsWordCutAndInsertWrong : ChangeSpec := { name := "fnStartsWordCutAndInsert", fn := fun _ => fun
  | [d1, d2] => { results := [.lit (.bool false)], args := [d1, d2] }
  | _ => none }
def FnStartsWordCutAndInsertWrongFalsely : Prop := fnStartsWordCutAndInsertRow.holds Try.pinned (OpenSpec.ofChange fnStartsWordCutAndInsertWrong)

/-- 'zzlaws_root_b1.FnPutFreesLastFirst': WHATEVER THE INPUT: true; the input reads as it did. -/
def fnPutFreesLastFirstSpec : ChangeSpec := { name := "fnPutFreesLastFirst", fn := fun _ => fun
  | [d] => { results := [.lit (.bool true)], args := [d] }
  | _ => none }
def fnPutFreesLastFirstRow : OpenClaim := { program := "qxb6613243a", sum := "71b1a01b7cc6cef8de8f28e74a53fcf454d4f9856b44fd9cab3e0a5ae511f7c8", func := "example.com/impartial-grants/impartial-grants/zzlaws_root_b1.FnPutFreesLastFirst", spec := "fnPutFreesLastFirst", apart := false }
def FnPutFreesLastFirstSaid : Prop := fnPutFreesLastFirstRow.holds Try.pinned (OpenSpec.ofChange fnPutFreesLastFirstSpec)

/-- ITS FALSE NEIGHBOUR: 'it returns false'. Refute it at one input. -/
def fnPutFreesLastFirstWrong : ChangeSpec := { name := "fnPutFreesLastFirst", fn := fun _ => fun
  | [d] => { results := [.lit (.bool false)], args := [d] }
  | _ => none }
def FnPutFreesLastFirstWrongFalsely : Prop := fnPutFreesLastFirstRow.holds Try.pinned (OpenSpec.ofChange fnPutFreesLastFirstWrong)

/-- 'zzlaws_root_b1.FnPutSharesWhatWasFreed': WHATEVER THE INPUT: true; the input reads as it did. -/
def fnPutSharesWhatWasFreedSpec : ChangeSpec := { name := "fnPutSharesWhatWasFreed", fn := fun _ => fun
  | [d1, d2, d3] => { results := [.lit (.bool true)], args := [d1, d2, d3] }
  | _ => none }
def fnPutSharesWhatWasFreedRow : OpenClaim := { program := "qxb6613243a", sum := "71b1a01b7cc6cef8de8f28e74a53fcf454d4f9856b44fd9cab3e0a5ae511f7c8", func := "example.com/impartial-grants/impartial-grants/zzlaws_root_b1.FnPutSharesWhatWasFreed", spec := "fnPutSharesWhatWasFreed", apart := false }
def FnPutSharesWhatWasFreedSaid : Prop := fnPutSharesWhatWasFreedRow.holds Try.pinned (OpenSpec.ofChange fnPutSharesWhatWasFreedSpec)

/-- ITS FALSE NEIGHBOUR: 'it returns false'. Refute it at one input. -/
def fnPutSharesWhatWasFreedWrong : ChangeSpec := { name := "fnPutSharesWhatWasFreed", fn := fun _ => fun
  | [d1, d2, d3] => { results := [.lit (.bool false)], args := [d1, d2, d3] }
  | _ => none }
def FnPutSharesWhatWasFreedWrongFalsely : Prop := fnPutSharesWhatWasFreedRow.holds Try.pinned (OpenSpec.ofChange fnPutSharesWhatWasFreedWrong)

end Rows
end Go.Proofs.Qxb6613243a
