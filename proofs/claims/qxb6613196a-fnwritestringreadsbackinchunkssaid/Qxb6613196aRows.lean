/-
  No cell of these rows narrows 'for every input' (looked for: loops, veiled, ifaces, maps, wideKeys, modest, calm, conditions, laid).
  DERIVED. THE GIVEN ROWS OF THIS SEAT. 5 by the template 'for every input the law returns true; each argument reads behind the call as it read before'; 0 by the template 'total and deterministic' (their statements: Qxb6613196aTotals.lean).
  GIVEN WITH THE SEED: the statements are not yours to turn. If you find one false, say at which input.
  Laid BY PROGRAM, IN A SANDBOX (cutbox-rows.mjs): the forced cells as the released guide's own fill.sh prints them over the translation cc88d5bbe98dba03… (all of the seat's roots in one cut). By AI agents, Wed Nov 11 2026. No macro, syntax, notation, axiom, sorry.
-/
import Derived.Test.Qxb6613196aChecked
import GoSem.Claim
import GoSem.ClaimJoined
import GoSem.ClaimMapViews
import Derived.JoinedTies
import Derived.KernelRfl
namespace Go.Proofs.Qxb6613196a
/- THE CELL 'sum', in the pinned program and in every row, IS THE sha256 OF THE DUMP (.gsa) THAT Qxb6613196aProg.lean LOADS. Nothing in Lean hashes anything: it is a label: what it is worth is what the hold of that sum in a sandbox is worth. -/
noncomputable def Try.pinned : Pinned := { name := "qxb6613196a", sum := "cc88d5bbe98dba030d5fd44b01670fcca0fe1824b85a54f326e6ef122acaed34", checked := Try.checked }
namespace Rows
def none {H : Type} : Left H := { results := [], args := [] }

/-- 'zzlaws_internal_hessian_b1.FnStringTagIsExactlyAStringOpening': WHATEVER THE INPUT: true; the input reads as it did. -/
def fnStringTagIsExactlyAStringOpeningSpec : ChangeSpec := { name := "fnStringTagIsExactlyAStringOpening", fn := fun _ => fun
  | [d] => { results := [.lit (.bool true)], args := [d] }
  | _ => none }
def fnStringTagIsExactlyAStringOpeningRow : OpenClaim := { program := "qxb6613196a", sum := "cc88d5bbe98dba030d5fd44b01670fcca0fe1824b85a54f326e6ef122acaed34", func := "example.com/stubwright/stubwright/zzlaws_internal_hessian_b1.FnStringTagIsExactlyAStringOpening", spec := "fnStringTagIsExactlyAStringOpening", apart := false }
def FnStringTagIsExactlyAStringOpeningSaid : Prop := fnStringTagIsExactlyAStringOpeningRow.holds Try.pinned (OpenSpec.ofChange fnStringTagIsExactlyAStringOpeningSpec)

/-- ITS FALSE NEIGHBOUR: 'it returns false'. Refute it at one input. -/
def fnStringTagIsExactlyAStringOpeningWrong : ChangeSpec := { name := "fnStringTagIsExactlyAStringOpening", fn := fun _ => fun
  | [d] => { results := [.lit (.bool false)], args := [d] }
  | _ => none }
def FnStringTagIsExactlyAStringOpeningWrongFalsely : Prop := fnStringTagIsExactlyAStringOpeningRow.holds Try.pinned (OpenSpec.ofChange fnStringTagIsExactlyAStringOpeningWrong)

/-- 'zzlaws_internal_hessian_b1.FnWriteStringReadsBackInChunks': WHATEVER THE INPUT: true; the input reads as it did. -/
def fnWriteStringReadsBackInChunksSpec : ChangeSpec := { name := "fnWriteStringReadsBackInChunks", fn := fun _ => fun
  | [d] => { results := [.lit (.bool true)], args := [d] }
  | _ => none }
def fnWriteStringReadsBackInChunksRow : OpenClaim := { program := "qxb6613196a", sum := "cc88d5bbe98dba030d5fd44b01670fcca0fe1824b85a54f326e6ef122acaed34", func := "example.com/stubwright/stubwright/zzlaws_internal_hessian_b1.FnWriteStringReadsBackInChunks", spec := "fnWriteStringReadsBackInChunks", apart := false }
def FnWriteStringReadsBackInChunksSaid : Prop := fnWriteStringReadsBackInChunksRow.holds Try.pinned (OpenSpec.ofChange fnWriteStringReadsBackInChunksSpec)

/-- ITS FALSE NEIGHBOUR: 'it returns false'. Refute it at one input. -/
def fnWriteStringReadsBackInChunksWrong : ChangeSpec := { name := "fnWriteStringReadsBackInChunks", fn := fun _ => fun
  | [d] => { results := [.lit (.bool false)], args := [d] }
  | _ => none }
def FnWriteStringReadsBackInChunksWrongFalsely : Prop := fnWriteStringReadsBackInChunksRow.holds Try.pinned (OpenSpec.ofChange fnWriteStringReadsBackInChunksWrong)

/-- 'zzlaws_internal_hessian_b1.FnStringTagOpensStringsNotLongs': WHATEVER THE INPUT: true; the input reads as it did. -/
def fnStringTagOpensStringsNotLongsSpec : ChangeSpec := { name := "fnStringTagOpensStringsNotLongs", fn := fun _ => fun
  | [d1, d2] => { results := [.lit (.bool true)], args := [d1, d2] }
  | _ => none }
def fnStringTagOpensStringsNotLongsRow : OpenClaim := { program := "qxb6613196a", sum := "cc88d5bbe98dba030d5fd44b01670fcca0fe1824b85a54f326e6ef122acaed34", func := "example.com/stubwright/stubwright/zzlaws_internal_hessian_b1.FnStringTagOpensStringsNotLongs", spec := "fnStringTagOpensStringsNotLongs", named := ["encoding/binary.BigEndian"], apart := false }
def FnStringTagOpensStringsNotLongsSaid : Prop := fnStringTagOpensStringsNotLongsRow.holds Try.pinned (OpenSpec.ofChange fnStringTagOpensStringsNotLongsSpec)

/-- ITS FALSE NEIGHBOUR: 'it returns false'. Refute it at one input. -/
def fnStringTagOpensStringsNotLongsWrong : ChangeSpec := { name := "fnStringTagOpensStringsNotLongs", fn := fun _ => fun
  | [d1, d2] => { results := [.lit (.bool false)], args := [d1, d2] }
  | _ => none }
def FnStringTagOpensStringsNotLongsWrongFalsely : Prop := fnStringTagOpensStringsNotLongsRow.holds Try.pinned (OpenSpec.ofChange fnStringTagOpensStringsNotLongsWrong)

/-- 'zzlaws_internal_hessian_b1.FnWriteLongReadsBackInOrder': WHATEVER THE INPUT: true; the input reads as it did. -/
def fnWriteLongReadsBackInOrderSpec : ChangeSpec := { name := "fnWriteLongReadsBackInOrder", fn := fun _ => fun
  | [d1, d2] => { results := [.lit (.bool true)], args := [d1, d2] }
  | _ => none }
def fnWriteLongReadsBackInOrderRow : OpenClaim := { program := "qxb6613196a", sum := "cc88d5bbe98dba030d5fd44b01670fcca0fe1824b85a54f326e6ef122acaed34", func := "example.com/stubwright/stubwright/zzlaws_internal_hessian_b1.FnWriteLongReadsBackInOrder", spec := "fnWriteLongReadsBackInOrder", named := ["encoding/binary.BigEndian"], apart := false }
def FnWriteLongReadsBackInOrderSaid : Prop := fnWriteLongReadsBackInOrderRow.holds Try.pinned (OpenSpec.ofChange fnWriteLongReadsBackInOrderSpec)

/-- ITS FALSE NEIGHBOUR: 'it returns false'. Refute it at one input. -/
def fnWriteLongReadsBackInOrderWrong : ChangeSpec := { name := "fnWriteLongReadsBackInOrder", fn := fun _ => fun
  | [d1, d2] => { results := [.lit (.bool false)], args := [d1, d2] }
  | _ => none }
def FnWriteLongReadsBackInOrderWrongFalsely : Prop := fnWriteLongReadsBackInOrderRow.holds Try.pinned (OpenSpec.ofChange fnWriteLongReadsBackInOrderWrong)

/-- 'zzlaws_internal_hessian_b1.FnWriteLongNeverLongerTowardZero': WHATEVER THE INPUT: true; the input reads as it did. -/
def fnWriteLongNeverLongerTowardZeroSpec : ChangeSpec := { name := "fnWriteLongNeverLongerTowardZero", fn := fun _ => fun
  | [d1, d2] => { results := [.lit (.bool true)], args := [d1, d2] }
  | _ => none }
def fnWriteLongNeverLongerTowardZeroRow : OpenClaim := { program := "qxb6613196a", sum := "cc88d5bbe98dba030d5fd44b01670fcca0fe1824b85a54f326e6ef122acaed34", func := "example.com/stubwright/stubwright/zzlaws_internal_hessian_b1.FnWriteLongNeverLongerTowardZero", spec := "fnWriteLongNeverLongerTowardZero", named := ["encoding/binary.BigEndian"], apart := false }
def FnWriteLongNeverLongerTowardZeroSaid : Prop := fnWriteLongNeverLongerTowardZeroRow.holds Try.pinned (OpenSpec.ofChange fnWriteLongNeverLongerTowardZeroSpec)

/-- ITS FALSE NEIGHBOUR: 'it returns false'. Refute it at one input. -/
def fnWriteLongNeverLongerTowardZeroWrong : ChangeSpec := { name := "fnWriteLongNeverLongerTowardZero", fn := fun _ => fun
  | [d1, d2] => { results := [.lit (.bool false)], args := [d1, d2] }
  | _ => none }
def FnWriteLongNeverLongerTowardZeroWrongFalsely : Prop := fnWriteLongNeverLongerTowardZeroRow.holds Try.pinned (OpenSpec.ofChange fnWriteLongNeverLongerTowardZeroWrong)

end Rows
end Go.Proofs.Qxb6613196a
