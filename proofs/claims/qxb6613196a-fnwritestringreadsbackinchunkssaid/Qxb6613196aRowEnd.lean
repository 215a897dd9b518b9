import Derived.Test.Qxb6613196aRows
import Derived.WalkKit
import Derived.ProofKit
import Derived.OpenShut
import Derived.ShutString
namespace Go.Proofs.Qxb6613196a
open Go.ChangeShapes Go.WideShapes Go.ChangeAt Go.RowKit

/-- The row's end where the arguments lie in no memory: the call has laid blocks of its own and written none but those. -/
theorem post_of_below {H : Type} {enc : TypeId × Value → H} {P : Program} {f : Func} {s : ChangeSpec} {apart fresh handsOn : Bool} {W W' : World} {args : Array Value} {v : Value} {ds gs : List (DataW H)}
    (hW : DataW.Whole enc P f.params.toList s.vars apart W args.toList ds gs [])
    (hres : ∀ (b : Nat) (sp : Nat → Bool) (hd : Bool), DataW.TrodAll enc P W' b sp hd f.resultTypes.toList (v.resultList f.resultTypes.size) (s.fn H (ds ++ gs)).results [])
    (hargs : ∀ sp : Nat → Bool, DataW.TrodAll enc P W' 0 sp true f.params.toList args.toList (s.fn H (ds ++ gs)).args [])
    (hvars : ∀ sp : Nat → Bool, DataW.TrodVars enc P W' sp s.vars (s.fn H (ds ++ gs)).vars [])
    (hk : Below W.heap.size W W') : s.post enc P f apart fresh handsOn false W args v W' := by
  refine ⟨ds, gs, [], [], [], [], hW, hres _ _ _, hargs _, hvars _, World.keptBut_mono (fun p hp => hp.elim) (hk.frame (fun _ => False)), fun h => by cases h⟩

theorem byte_bounds {a : Int} (h : (Lit.int .u8 a).wf = true) : 0 ≤ a ∧ a ≤ 255 := bounds_u8 h
theorem int_bounds {a : Int} (h : (Lit.int .i64 a).wf = true) : -9223372036854775808 ≤ a ∧ a ≤ 9223372036854775807 := bounds_i64 h

end Go.Proofs.Qxb6613196a
