/-
  No cell of these rows narrows 'for every input' (looked for: loops, veiled, ifaces, maps, wideKeys, modest, calm, conditions, laid).
  DERIVED. THE GIVEN ROWS OF THIS SEAT. 2 by the template 'for every input the law returns true; each argument reads behind the call as it read before'; 0 by the template 'total and deterministic' (their statements: Qxb6604563aModsTotals.lean).
  GIVEN WITH THE SEED: the statements are not yours to turn. If you find one false, say at which input.
  Laid BY PROGRAM, IN A SANDBOX (cutbox-rows.mjs): the forced cells as the released guide's own fill.sh prints them over the translation 4bdac52a17e3aa85… (all of the seat's roots in one cut). By AI agents, Wed Nov 11 2026. No macro, syntax, notation, axiom, sorry.
-/
import Derived.Test.Qxb6604563aModsChecked
import GoSem.Claim
import GoSem.ClaimJoined
import GoSem.ClaimMapViews
import Derived.JoinedTies
import Derived.KernelRfl
namespace Go.Proofs.Qxb6604563aMods
/- THE CELL 'sum', in the pinned program and in every row, IS THE sha256 OF THE DUMP (.gsa) THAT Qxb6604563aModsProg.lean LOADS. Nothing in Lean hashes anything: it is a label: what it is worth is what the hold of that sum in a sandbox is worth. -/
noncomputable def Trym.pinned : Pinned := { name := "qxb6604563amods", sum := "4bdac52a17e3aa85b6aefb0ce8f8aef3b7eac18a672cbb3d52b1365c96c79113", checked := Trym.checked }
namespace Rows
def none {H : Type} : Left H := { results := [], args := [] }

/-- 'zzlaws_store_b1.FnHashedMovePlacesByLinearProbing': WHATEVER THE INPUT: true; the input reads as it did. -/
def fnHashedMovePlacesByLinearProbingSpec : ChangeSpec := { name := "fnHashedMovePlacesByLinearProbing", fn := fun _ => fun
  | [d1, d2, d3, d4, d5, d6] => { results := [.lit (.bool true)], args := [d1, d2, d3, d4, d5, d6] }
  | _ => none }
def fnHashedMovePlacesByLinearProbingRow : OpenClaim := { program := "qxb6604563amods", sum := "4bdac52a17e3aa85b6aefb0ce8f8aef3b7eac18a672cbb3d52b1365c96c79113", func := "example.com/cardinalis/cardinalis/zzlaws_store_b1.FnHashedMovePlacesByLinearProbing", spec := "fnHashedMovePlacesByLinearProbing", make := .lifted ["publicsums"], apart := false }
def FnHashedMovePlacesByLinearProbingSaid : Prop := fnHashedMovePlacesByLinearProbingRow.holds Trym.pinned (OpenSpec.ofChange fnHashedMovePlacesByLinearProbingSpec)

/-- ITS FALSE NEIGHBOUR: 'it returns false'. Refute it at one input. -/
def fnHashedMovePlacesByLinearProbingWrong : ChangeSpec := { name := "fnHashedMovePlacesByLinearProbing", fn := fun _ => fun
  | [d1, d2, d3, d4, d5, d6] => { results := [.lit (.bool false)], args := [d1, d2, d3, d4, d5, d6] }
  | _ => none }
def FnHashedMovePlacesByLinearProbingWrongFalsely : Prop := fnHashedMovePlacesByLinearProbingRow.holds Trym.pinned (OpenSpec.ofChange fnHashedMovePlacesByLinearProbingWrong)

/-- 'zzlaws_store_b1.FnHashedMoveInPiecesAgreesWithOneMove': WHATEVER THE INPUT: true; the input reads as it did. -/
def fnHashedMoveInPiecesAgreesWithOneMoveSpec : ChangeSpec := { name := "fnHashedMoveInPiecesAgreesWithOneMove", fn := fun _ => fun
  | [d1, d2, d3, d4, d5, d6, d7] => { results := [.lit (.bool true)], args := [d1, d2, d3, d4, d5, d6, d7] }
  | _ => none }
def fnHashedMoveInPiecesAgreesWithOneMoveRow : OpenClaim := { program := "qxb6604563amods", sum := "4bdac52a17e3aa85b6aefb0ce8f8aef3b7eac18a672cbb3d52b1365c96c79113", func := "example.com/cardinalis/cardinalis/zzlaws_store_b1.FnHashedMoveInPiecesAgreesWithOneMove", spec := "fnHashedMoveInPiecesAgreesWithOneMove", make := .lifted ["publicsums"], apart := false }
def FnHashedMoveInPiecesAgreesWithOneMoveSaid : Prop := fnHashedMoveInPiecesAgreesWithOneMoveRow.holds Trym.pinned (OpenSpec.ofChange fnHashedMoveInPiecesAgreesWithOneMoveSpec)

/-- ITS FALSE NEIGHBOUR: 'it returns false'. Refute it at one input. -/
def fnHashedMoveInPiecesAgreesWithOneMoveWrong : ChangeSpec := { name := "fnHashedMoveInPiecesAgreesWithOneMove", fn := fun _ => fun
  | [d1, d2, d3, d4, d5, d6, d7] => { results := [.lit (.bool false)], args := [d1, d2, d3, d4, d5, d6, d7] }
  | _ => none }
def FnHashedMoveInPiecesAgreesWithOneMoveWrongFalsely : Prop := fnHashedMoveInPiecesAgreesWithOneMoveRow.holds Trym.pinned (OpenSpec.ofChange fnHashedMoveInPiecesAgreesWithOneMoveWrong)

end Rows
end Go.Proofs.Qxb6604563aMods
