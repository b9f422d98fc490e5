/-
  No cell of these rows narrows 'for every input' (looked for: loops, veiled, ifaces, maps, wideKeys, modest, calm, conditions, laid).
  DERIVED. THE GIVEN ROWS OF THIS SEAT. 4 by the template 'for every input the law returns true; each argument reads behind the call as it read before'; 0 by the template 'total and deterministic' (their statements: Qxb6606120aTotals.lean).
  GIVEN WITH THE SEED: the statements are not yours to turn. If you find one false, say at which input.
  Laid BY PROGRAM, IN A SANDBOX (cutbox-rows.mjs): the forced cells as the released guide's own fill.sh prints them over the translation 218344f0c73ef988… (all of the seat's roots in one cut). By AI agents, Wed Nov 11 2026. No macro, syntax, notation, axiom, sorry.
-/
import Derived.Test.Qxb6606120aChecked
import GoSem.Claim
import GoSem.ClaimJoined
import GoSem.ClaimMapViews
import Derived.JoinedTies
import Derived.KernelRfl
namespace Go.Proofs.Qxb6606120a
/- THE CELL 'sum', in the pinned program and in every row, IS THE sha256 OF THE DUMP (.gsa) THAT Qxb6606120aProg.lean LOADS. Nothing in Lean hashes anything: it is a label: what it is worth is what the hold of that sum in a sandbox is worth. -/
noncomputable def Try.pinned : Pinned := { name := "qxb6606120a", sum := "218344f0c73ef988965a74cf655c0963ff07f9c7d25988acc423e3e89092d5a4", checked := Try.checked }
namespace Rows
def none {H : Type} : Left H := { results := [], args := [] }

/-- 'zzlaws_internal_tlogtiles_b1.FnIndexGroupTextOrderIsNumericOrder': WHATEVER THE INPUT: true; the input reads as it did. -/
def fnIndexGroupTextOrderIsNumericOrderSpec : ChangeSpec := { name := "fnIndexGroupTextOrderIsNumericOrder", fn := fun _ => fun
  | [d1, d2] => { results := [.lit (.bool true)], args := [d1, d2] }
  | _ => none }
def fnIndexGroupTextOrderIsNumericOrderRow : OpenClaim := { program := "qxb6606120a", sum := "218344f0c73ef988965a74cf655c0963ff07f9c7d25988acc423e3e89092d5a4", func := "example.com/tilewright/tilewright/zzlaws_internal_tlogtiles_b1.FnIndexGroupTextOrderIsNumericOrder", spec := "fnIndexGroupTextOrderIsNumericOrder", apart := false }
def FnIndexGroupTextOrderIsNumericOrderSaid : Prop := fnIndexGroupTextOrderIsNumericOrderRow.holds Try.pinned (OpenSpec.ofChange fnIndexGroupTextOrderIsNumericOrderSpec)

/-- ITS FALSE NEIGHBOUR: 'it returns false'. Refute it at one input. -/
def fnIndexGroupTextOrderIsNumericOrderWrong : ChangeSpec := { name := "fnIndexGroupTextOrderIsNumericOrder", fn := fun _ => fun
  | [d1, d2] => { results := [.lit (.bool false)], args := [d1, d2] }
  | _ => none }
def FnIndexGroupTextOrderIsNumericOrderWrongFalsely : Prop := fnIndexGroupTextOrderIsNumericOrderRow.holds Try.pinned (OpenSpec.ofChange fnIndexGroupTextOrderIsNumericOrderWrong)

/-- 'zzlaws_internal_tlogtiles_b1.FnCountGrownTilesIsNewTilesLessKeptTiles': WHATEVER THE INPUT: true; the input reads as it did. -/
def fnCountGrownTilesIsNewTilesLessKeptTilesSpec : ChangeSpec := { name := "fnCountGrownTilesIsNewTilesLessKeptTiles", fn := fun _ => fun
  | [d1, d2] => { results := [.lit (.bool true)], args := [d1, d2] }
  | _ => none }
def fnCountGrownTilesIsNewTilesLessKeptTilesRow : OpenClaim := { program := "qxb6606120a", sum := "218344f0c73ef988965a74cf655c0963ff07f9c7d25988acc423e3e89092d5a4", func := "example.com/tilewright/tilewright/zzlaws_internal_tlogtiles_b1.FnCountGrownTilesIsNewTilesLessKeptTiles", spec := "fnCountGrownTilesIsNewTilesLessKeptTiles", apart := false }
def FnCountGrownTilesIsNewTilesLessKeptTilesSaid : Prop := fnCountGrownTilesIsNewTilesLessKeptTilesRow.holds Try.pinned (OpenSpec.ofChange fnCountGrownTilesIsNewTilesLessKeptTilesSpec)

/-- ITS FALSE NEIGHBOUR: 'it returns false'. Refute it at one input. -/
def fnCountGrownTilesIsNewTilesLessKeptTilesWrong : ChangeSpec := { name := "fnCountGrownTilesIsNewTilesLessKeptTiles", fn := fun _ => fun
  | [d1, d2] => { results := [.lit (.bool false)], args := [d1, d2] }
  | _ => none }
def FnCountGrownTilesIsNewTilesLessKeptTilesWrongFalsely : Prop := fnCountGrownTilesIsNewTilesLessKeptTilesRow.holds Try.pinned (OpenSpec.ofChange fnCountGrownTilesIsNewTilesLessKeptTilesWrong)

/-- 'zzlaws_internal_tlogtiles_b1.FnCountGrownTilesMonotoneAndSubadditive': WHATEVER THE INPUT: true; the input reads as it did. -/
def fnCountGrownTilesMonotoneAndSubadditiveSpec : ChangeSpec := { name := "fnCountGrownTilesMonotoneAndSubadditive", fn := fun _ => fun
  | [d1, d2, d3] => { results := [.lit (.bool true)], args := [d1, d2, d3] }
  | _ => none }
def fnCountGrownTilesMonotoneAndSubadditiveRow : OpenClaim := { program := "qxb6606120a", sum := "218344f0c73ef988965a74cf655c0963ff07f9c7d25988acc423e3e89092d5a4", func := "example.com/tilewright/tilewright/zzlaws_internal_tlogtiles_b1.FnCountGrownTilesMonotoneAndSubadditive", spec := "fnCountGrownTilesMonotoneAndSubadditive", apart := false }
def FnCountGrownTilesMonotoneAndSubadditiveSaid : Prop := fnCountGrownTilesMonotoneAndSubadditiveRow.holds Try.pinned (OpenSpec.ofChange fnCountGrownTilesMonotoneAndSubadditiveSpec)

/-- ITS FALSE NEIGHBOUR: 'it returns false'. Refute it at one input. -/
def fnCountGrownTilesMonotoneAndSubadditiveWrong : ChangeSpec := { name := "fnCountGrownTilesMonotoneAndSubadditive", fn := fun _ => fun
  | [d1, d2, d3] => { results := [.lit (.bool false)], args := [d1, d2, d3] }
  | _ => none }
def FnCountGrownTilesMonotoneAndSubadditiveWrongFalsely : Prop := fnCountGrownTilesMonotoneAndSubadditiveRow.holds Try.pinned (OpenSpec.ofChange fnCountGrownTilesMonotoneAndSubadditiveWrong)

/-- 'zzlaws_internal_tlogtiles_b1.FnCountGrownTilesZeroExactlyWhenNothingGrew': WHATEVER THE INPUT: true; the input reads as it did. -/
def fnCountGrownTilesZeroExactlyWhenNothingGrewSpec : ChangeSpec := { name := "fnCountGrownTilesZeroExactlyWhenNothingGrew", fn := fun _ => fun
  | [d1, d2] => { results := [.lit (.bool true)], args := [d1, d2] }
  | _ => none }
def fnCountGrownTilesZeroExactlyWhenNothingGrewRow : OpenClaim := { program := "qxb6606120a", sum := "218344f0c73ef988965a74cf655c0963ff07f9c7d25988acc423e3e89092d5a4", func := "example.com/tilewright/tilewright/zzlaws_internal_tlogtiles_b1.FnCountGrownTilesZeroExactlyWhenNothingGrew", spec := "fnCountGrownTilesZeroExactlyWhenNothingGrew", apart := false }
def FnCountGrownTilesZeroExactlyWhenNothingGrewSaid : Prop := fnCountGrownTilesZeroExactlyWhenNothingGrewRow.holds Try.pinned (OpenSpec.ofChange fnCountGrownTilesZeroExactlyWhenNothingGrewSpec)

/-- ITS FALSE NEIGHBOUR: 'it returns false'. Refute it at one input. -/
def fnCountGrownTilesZeroExactlyWhenNothingGrewWrong : ChangeSpec := { name := "fnCountGrownTilesZeroExactlyWhenNothingGrew", fn := fun _ => fun
  | [d1, d2] => { results := [.lit (.bool false)], args := [d1, d2] }
  | _ => none }
def FnCountGrownTilesZeroExactlyWhenNothingGrewWrongFalsely : Prop := fnCountGrownTilesZeroExactlyWhenNothingGrewRow.holds Try.pinned (OpenSpec.ofChange fnCountGrownTilesZeroExactlyWhenNothingGrewWrong)

end Rows
end Go.Proofs.Qxb6606120a
