/-
  No cell of these rows narrows 'for every input' (looked for: loops, veiled, ifaces, maps, wideKeys, modest, calm, conditions, laid).
  DERIVED. THE GIVEN ROWS OF THIS SEAT. 3 by the template 'for every input the law returns true; each argument reads behind the call as it read before'; 0 by the template 'total and deterministic' (their statements: Qxb6613128aTotals.lean).
  GIVEN WITH THE SEED: the statements are not yours to turn. If you find one false, say at which input.
  Laid BY PROGRAM, IN A SANDBOX (cutbox-rows.mjs): the forced cells as the released guide's own fill.sh prints them over the translation cb37193d033deb25… (all of the seat's roots in one cut). By AI agents, Wed Nov 11 2026. No macro, syntax, notation, axiom, sorry.
-/
import Derived.Test.Qxb6613128aChecked
import GoSem.Claim
import GoSem.ClaimJoined
import GoSem.ClaimMapViews
import Derived.JoinedTies
import Derived.KernelRfl
namespace Go.Proofs.Qxb6613128a
/- THE CELL 'sum', in the pinned program and in every row, IS THE sha256 OF THE DUMP (.gsa) THAT Qxb6613128aProg.lean LOADS. Nothing in Lean hashes anything: it is a label: what it is worth is what the hold of that sum in a sandbox is worth. -/
noncomputable def Try.pinned : Pinned := { name := "qxb6613128a", sum := "cb37193d033deb257547e5e49c3cd3e1aec16b7a96f9f3cdf12d5228c0b53833", checked := Try.checked }
namespace Rows
def none {H : Type} : Left H := { results := [], args := [] }

/-- 'zzlaws_zfs_b1.FnOptionTakesSplitsByKind': WHATEVER THE INPUT: true; the input reads as it did. -/
def fnOptionTakesSplitsByKindSpec : ChangeSpec := { name := "fnOptionTakesSplitsByKind", fn := fun _ => fun
  | [d1, d2, d3, d4, d5, d6, d7] => { results := [.lit (.bool true)], args := [d1, d2, d3, d4, d5, d6, d7] }
  | _ => none }
def fnOptionTakesSplitsByKindRow : OpenClaim := { program := "qxb6613128a", sum := "cb37193d033deb257547e5e49c3cd3e1aec16b7a96f9f3cdf12d5228c0b53833", func := "example.com/stoneward/stoneward/zzlaws_zfs_b1.FnOptionTakesSplitsByKind", spec := "fnOptionTakesSplitsByKind", apart := false }
def FnOptionTakesSplitsByKindSaid : Prop := fnOptionTakesSplitsByKindRow.holds Try.pinned (OpenSpec.ofChange fnOptionTakesSplitsByKindSpec)

/-- ITS FALSE NEIGHBOUR: 'it returns false'. Refute it at one input. -/
def fnOptionTakesSplitsByKindWrong : ChangeSpec := { name := "fnOptionTakesSplitsByKind", fn := fun _ => fun
  | [d1, d2, d3, d4, d5, d6, d7] => { results := [.lit (.bool false)], args := [d1, d2, d3, d4, d5, d6, d7] }
  | _ => none }
def FnOptionTakesSplitsByKindWrongFalsely : Prop := fnOptionTakesSplitsByKindRow.holds Try.pinned (OpenSpec.ofChange fnOptionTakesSplitsByKindWrong)

/-- 'zzlaws_zfs_b1.FnVolumeShowsWhatTheAPIShows': WHATEVER THE INPUT: true; the input reads as it did. -/
def fnVolumeShowsWhatTheAPIShowsSpec : ChangeSpec := { name := "fnVolumeShowsWhatTheAPIShows", fn := fun _ => fun
  | [d1, d2, d3, d4, d5, d6, d7, d8, d9] => { results := [.lit (.bool true)], args := [d1, d2, d3, d4, d5, d6, d7, d8, d9] }
  | _ => none }
def fnVolumeShowsWhatTheAPIShowsRow : OpenClaim := { program := "qxb6613128a", sum := "cb37193d033deb257547e5e49c3cd3e1aec16b7a96f9f3cdf12d5228c0b53833", func := "example.com/stoneward/stoneward/zzlaws_zfs_b1.FnVolumeShowsWhatTheAPIShows", spec := "fnVolumeShowsWhatTheAPIShows", apart := false }
def FnVolumeShowsWhatTheAPIShowsSaid : Prop := fnVolumeShowsWhatTheAPIShowsRow.holds Try.pinned (OpenSpec.ofChange fnVolumeShowsWhatTheAPIShowsSpec)

/-- ITS FALSE NEIGHBOUR: 'it returns false'. Refute it at one input. -/
def fnVolumeShowsWhatTheAPIShowsWrong : ChangeSpec := { name := "fnVolumeShowsWhatTheAPIShows", fn := fun _ => fun
  | [d1, d2, d3, d4, d5, d6, d7, d8, d9] => { results := [.lit (.bool false)], args := [d1, d2, d3, d4, d5, d6, d7, d8, d9] }
  | _ => none }
def FnVolumeShowsWhatTheAPIShowsWrongFalsely : Prop := fnVolumeShowsWhatTheAPIShowsRow.holds Try.pinned (OpenSpec.ofChange fnVolumeShowsWhatTheAPIShowsWrong)

/-- 'zzlaws_zfs_b1.FnVolumeTellsVolumesApart': WHATEVER THE INPUT: true; the input reads as it did. -/
def fnVolumeTellsVolumesApartSpec : ChangeSpec := { name := "fnVolumeTellsVolumesApart", fn := fun _ => fun
  | [d1, d2, d3, d4, d5, d6, d7, d8, d9, d10, d11, d12] => { results := [.lit (.bool true)], args := [d1, d2, d3, d4, d5, d6, d7, d8, d9, d10, d11, d12] }
  | _ => none }
def fnVolumeTellsVolumesApartRow : OpenClaim := { program := "qxb6613128a", sum := "cb37193d033deb257547e5e49c3cd3e1aec16b7a96f9f3cdf12d5228c0b53833", func := "example.com/stoneward/stoneward/zzlaws_zfs_b1.FnVolumeTellsVolumesApart", spec := "fnVolumeTellsVolumesApart", apart := false }
def FnVolumeTellsVolumesApartSaid : Prop := fnVolumeTellsVolumesApartRow.holds Try.pinned (OpenSpec.ofChange fnVolumeTellsVolumesApartSpec)

/-- ITS FALSE NEIGHBOUR: 'it returns false'. Refute it at one input. -/
def fnVolumeTellsVolumesApartWrong : ChangeSpec := { name := "fnVolumeTellsVolumesApart", fn := fun _ => fun
  | [d1, d2, d3, d4, d5, d6, d7, d8, d9, d10, d11, d12] => { results := [.lit (.bool false)], args := [d1, d2, d3, d4, d5, d6, d7, d8, d9, d10, d11, d12] }
  | _ => none }
def FnVolumeTellsVolumesApartWrongFalsely : Prop := fnVolumeTellsVolumesApartRow.holds Try.pinned (OpenSpec.ofChange fnVolumeTellsVolumesApartWrong)

end Rows
end Go.Proofs.Qxb6613128a
