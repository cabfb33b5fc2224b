/-
  No cell of these rows narrows 'for every input' (looked for: loops, veiled, ifaces, maps, wideKeys, modest, calm, conditions, laid).
  DERIVED. THE GIVEN ROWS OF THIS SEAT. 3 by the template 'for every input the law returns true; each argument reads behind the call as it read before'; 0 by the template 'total and deterministic' (their statements: Qxb6604216aModsTotals.lean).
  GIVEN WITH THE SEED: the statements are not yours to turn. If you find one false, say at which input.
  Laid BY PROGRAM, IN A SANDBOX (cutbox-rows.mjs): the forced cells as the released guide's own fill.sh prints them over the translation f8454fa5d1381f45… (all of the seat's roots in one cut). By AI agents, Wed Nov 11 2026. No macro, syntax, notation, axiom, sorry.
-/
import Derived.Test.Qxb6604216aModsChecked
import GoSem.Claim
import GoSem.ClaimJoined
import GoSem.ClaimMapViews
import Derived.JoinedTies
import Derived.KernelRfl
namespace Go.Proofs.Qxb6604216aMods
/- THE CELL 'sum', in the pinned program and in every row, IS THE sha256 OF THE DUMP (.gsa) THAT Qxb6604216aModsProg.lean LOADS. Nothing in Lean hashes anything: it is a label: what it is worth is what the hold of that sum in a sandbox is worth. -/
noncomputable def Trym.pinned : Pinned := { name := "qxb6604216amods", sum := "f8454fa5d1381f4556f29a040c07e530d11e63cca942a035a8abdccd5789f295", checked := Trym.checked }
namespace Rows
def none {H : Type} : Left H := { results := [], args := [] }

/-- 'zzlaws_store_b1.FnAfterMatchesWindowModel': WHATEVER THE INPUT: true; the input reads as it did. -/
def fnAfterMatchesWindowModelSpec : ChangeSpec := { name := "fnAfterMatchesWindowModel", fn := fun _ => fun
  | [d1, d2, d3, d4, d5, d6] => { results := [.lit (.bool true)], args := [d1, d2, d3, d4, d5, d6] }
  | _ => none }
def fnAfterMatchesWindowModelRow : OpenClaim := { program := "qxb6604216amods", sum := "f8454fa5d1381f4556f29a040c07e530d11e63cca942a035a8abdccd5789f295", func := "example.com/geoquorum/geoquorum/zzlaws_store_b1.FnAfterMatchesWindowModel", spec := "fnAfterMatchesWindowModel", make := .lifted ["publicsums"], apart := false }
def FnAfterMatchesWindowModelSaid : Prop := fnAfterMatchesWindowModelRow.holds Trym.pinned (OpenSpec.ofChange fnAfterMatchesWindowModelSpec)

/-- ITS FALSE NEIGHBOUR: 'it returns false'. Refute it at one input. -/
def fnAfterMatchesWindowModelWrong : ChangeSpec := { name := "fnAfterMatchesWindowModel", fn := fun _ => fun
  | [d1, d2, d3, d4, d5, d6] => { results := [.lit (.bool false)], args := [d1, d2, d3, d4, d5, d6] }
  | _ => none }
def FnAfterMatchesWindowModelWrongFalsely : Prop := fnAfterMatchesWindowModelRow.holds Trym.pinned (OpenSpec.ofChange fnAfterMatchesWindowModelWrong)

/-- 'zzlaws_store_b1.FnAfterTenWritesAtOneRegionMakeItHome': WHATEVER THE INPUT: true; the input reads as it did. -/
def fnAfterTenWritesAtOneRegionMakeItHomeSpec : ChangeSpec := { name := "fnAfterTenWritesAtOneRegionMakeItHome", fn := fun _ => fun
  | [d1, d2, d3, d4, d5, d6] => { results := [.lit (.bool true)], args := [d1, d2, d3, d4, d5, d6] }
  | _ => none }
def fnAfterTenWritesAtOneRegionMakeItHomeRow : OpenClaim := { program := "qxb6604216amods", sum := "f8454fa5d1381f4556f29a040c07e530d11e63cca942a035a8abdccd5789f295", func := "example.com/geoquorum/geoquorum/zzlaws_store_b1.FnAfterTenWritesAtOneRegionMakeItHome", spec := "fnAfterTenWritesAtOneRegionMakeItHome", make := .lifted ["publicsums"], apart := false }
def FnAfterTenWritesAtOneRegionMakeItHomeSaid : Prop := fnAfterTenWritesAtOneRegionMakeItHomeRow.holds Trym.pinned (OpenSpec.ofChange fnAfterTenWritesAtOneRegionMakeItHomeSpec)

/-- ITS FALSE NEIGHBOUR: 'it returns false'. Refute it at one input. -/
def fnAfterTenWritesAtOneRegionMakeItHomeWrong : ChangeSpec := { name := "fnAfterTenWritesAtOneRegionMakeItHome", fn := fun _ => fun
  | [d1, d2, d3, d4, d5, d6] => { results := [.lit (.bool false)], args := [d1, d2, d3, d4, d5, d6] }
  | _ => none }
def FnAfterTenWritesAtOneRegionMakeItHomeWrongFalsely : Prop := fnAfterTenWritesAtOneRegionMakeItHomeRow.holds Trym.pinned (OpenSpec.ofChange fnAfterTenWritesAtOneRegionMakeItHomeWrong)

/-- 'zzlaws_store_b1.FnCounterAskedAgreesWithAfterFold': WHATEVER THE INPUT: true; the input reads as it did. -/
def fnCounterAskedAgreesWithAfterFoldSpec : ChangeSpec := { name := "fnCounterAskedAgreesWithAfterFold", fn := fun _ => fun
  | [d1, d2, d3, d4, d5] => { results := [.lit (.bool true)], args := [d1, d2, d3, d4, d5] }
  | _ => none }
def fnCounterAskedAgreesWithAfterFoldRow : OpenClaim := { program := "qxb6604216amods", sum := "f8454fa5d1381f4556f29a040c07e530d11e63cca942a035a8abdccd5789f295", func := "example.com/geoquorum/geoquorum/zzlaws_store_b1.FnCounterAskedAgreesWithAfterFold", spec := "fnCounterAskedAgreesWithAfterFold", make := .lifted ["publicsums"], apart := false }
def FnCounterAskedAgreesWithAfterFoldSaid : Prop := fnCounterAskedAgreesWithAfterFoldRow.holds Trym.pinned (OpenSpec.ofChange fnCounterAskedAgreesWithAfterFoldSpec)

/-- ITS FALSE NEIGHBOUR: 'it returns false'. Refute it at one input. -/
def fnCounterAskedAgreesWithAfterFoldWrong : ChangeSpec := { name := "fnCounterAskedAgreesWithAfterFold", fn := fun _ => fun
  | [d1, d2, d3, d4, d5] => { results := [.lit (.bool false)], args := [d1, d2, d3, d4, d5] }
  | _ => none }
def FnCounterAskedAgreesWithAfterFoldWrongFalsely : Prop := fnCounterAskedAgreesWithAfterFoldRow.holds Trym.pinned (OpenSpec.ofChange fnCounterAskedAgreesWithAfterFoldWrong)

end Rows
end Go.Proofs.Qxb6604216aMods
