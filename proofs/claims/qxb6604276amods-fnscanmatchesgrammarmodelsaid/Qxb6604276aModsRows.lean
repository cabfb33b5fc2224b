/-
  No cell of these rows narrows 'for every input' (looked for: loops, veiled, ifaces, maps, wideKeys, modest, calm, conditions, laid).
  DERIVED. THE GIVEN ROWS OF THIS SEAT. 3 by the template 'for every input the law returns true; each argument reads behind the call as it read before'; 0 by the template 'total and deterministic' (their statements: Qxb6604276aModsTotals.lean).
  GIVEN WITH THE SEED: the statements are not yours to turn. If you find one false, say at which input.
  Laid BY PROGRAM, IN A SANDBOX (cutbox-rows.mjs): the forced cells as the released guide's own fill.sh prints them over the translation b274f140e764218d… (all of the seat's roots in one cut). By AI agents, Wed Nov 11 2026. No macro, syntax, notation, axiom, sorry.
-/
import Derived.Test.Qxb6604276aModsChecked
import GoSem.Claim
import GoSem.ClaimJoined
import GoSem.ClaimMapViews
import Derived.JoinedTies
import Derived.KernelRfl
namespace Go.Proofs.Qxb6604276aMods
/- THE CELL 'sum', in the pinned program and in every row, IS THE sha256 OF THE DUMP (.gsa) THAT Qxb6604276aModsProg.lean LOADS. Nothing in Lean hashes anything: it is a label: what it is worth is what the hold of that sum in a sandbox is worth. -/
noncomputable def Trym.pinned : Pinned := { name := "qxb6604276amods", sum := "b274f140e764218d956462070af34cbcecc6018dc7ed24fcda4cc6e8d396068a", checked := Trym.checked }
namespace Rows
def none {H : Type} : Left H := { results := [], args := [] }

/-- 'zzlaws_internal_exact_b1.FnScanMatchesGrammarModel': WHATEVER THE INPUT: true; the input reads as it did. -/
def fnScanMatchesGrammarModelSpec : ChangeSpec := { name := "fnScanMatchesGrammarModel", fn := fun _ => fun
  | [d] => { results := [.lit (.bool true)], args := [d] }
  | _ => none }
def fnScanMatchesGrammarModelRow : OpenClaim := { program := "qxb6604276amods", sum := "b274f140e764218d956462070af34cbcecc6018dc7ed24fcda4cc6e8d396068a", func := "example.com/strikebook/strikebook/zzlaws_internal_exact_b1.FnScanMatchesGrammarModel", spec := "fnScanMatchesGrammarModel", make := .lifted ["publicsums"], apart := false }
def FnScanMatchesGrammarModelSaid : Prop := fnScanMatchesGrammarModelRow.holds Trym.pinned (OpenSpec.ofChange fnScanMatchesGrammarModelSpec)

/-- ITS FALSE NEIGHBOUR: 'it returns false'. Refute it at one input. -/
def fnScanMatchesGrammarModelWrong : ChangeSpec := { name := "fnScanMatchesGrammarModel", fn := fun _ => fun
  | [d] => { results := [.lit (.bool false)], args := [d] }
  | _ => none }
def FnScanMatchesGrammarModelWrongFalsely : Prop := fnScanMatchesGrammarModelRow.holds Trym.pinned (OpenSpec.ofChange fnScanMatchesGrammarModelWrong)

/-- 'zzlaws_internal_exact_b1.FnScanSignIsOnlyTheLeadingMinus': WHATEVER THE INPUT: true; the input reads as it did. -/
def fnScanSignIsOnlyTheLeadingMinusSpec : ChangeSpec := { name := "fnScanSignIsOnlyTheLeadingMinus", fn := fun _ => fun
  | [d] => { results := [.lit (.bool true)], args := [d] }
  | _ => none }
def fnScanSignIsOnlyTheLeadingMinusRow : OpenClaim := { program := "qxb6604276amods", sum := "b274f140e764218d956462070af34cbcecc6018dc7ed24fcda4cc6e8d396068a", func := "example.com/strikebook/strikebook/zzlaws_internal_exact_b1.FnScanSignIsOnlyTheLeadingMinus", spec := "fnScanSignIsOnlyTheLeadingMinus", make := .lifted ["publicsums"], apart := false }
def FnScanSignIsOnlyTheLeadingMinusSaid : Prop := fnScanSignIsOnlyTheLeadingMinusRow.holds Trym.pinned (OpenSpec.ofChange fnScanSignIsOnlyTheLeadingMinusSpec)

/-- ITS FALSE NEIGHBOUR: 'it returns false'. Refute it at one input. -/
def fnScanSignIsOnlyTheLeadingMinusWrong : ChangeSpec := { name := "fnScanSignIsOnlyTheLeadingMinus", fn := fun _ => fun
  | [d] => { results := [.lit (.bool false)], args := [d] }
  | _ => none }
def FnScanSignIsOnlyTheLeadingMinusWrongFalsely : Prop := fnScanSignIsOnlyTheLeadingMinusRow.holds Trym.pinned (OpenSpec.ofChange fnScanSignIsOnlyTheLeadingMinusWrong)

/-- 'zzlaws_internal_exact_b1.FnAbsInt64EvenBoundedZeroOnlyAtZero': WHATEVER THE INPUT: true; the input reads as it did. -/
def fnAbsInt64EvenBoundedZeroOnlyAtZeroSpec : ChangeSpec := { name := "fnAbsInt64EvenBoundedZeroOnlyAtZero", fn := fun _ => fun
  | [d] => { results := [.lit (.bool true)], args := [d] }
  | _ => none }
def fnAbsInt64EvenBoundedZeroOnlyAtZeroRow : OpenClaim := { program := "qxb6604276amods", sum := "b274f140e764218d956462070af34cbcecc6018dc7ed24fcda4cc6e8d396068a", func := "example.com/strikebook/strikebook/zzlaws_internal_exact_b1.FnAbsInt64EvenBoundedZeroOnlyAtZero", spec := "fnAbsInt64EvenBoundedZeroOnlyAtZero", make := .lifted ["publicsums"], apart := false }
def FnAbsInt64EvenBoundedZeroOnlyAtZeroSaid : Prop := fnAbsInt64EvenBoundedZeroOnlyAtZeroRow.holds Trym.pinned (OpenSpec.ofChange fnAbsInt64EvenBoundedZeroOnlyAtZeroSpec)

/-- ITS FALSE NEIGHBOUR: 'it returns false'. Refute it at one input. -/
def fnAbsInt64EvenBoundedZeroOnlyAtZeroWrong : ChangeSpec := { name := "fnAbsInt64EvenBoundedZeroOnlyAtZero", fn := fun _ => fun
  | [d] => { results := [.lit (.bool false)], args := [d] }
  | _ => none }
def FnAbsInt64EvenBoundedZeroOnlyAtZeroWrongFalsely : Prop := fnAbsInt64EvenBoundedZeroOnlyAtZeroRow.holds Trym.pinned (OpenSpec.ofChange fnAbsInt64EvenBoundedZeroOnlyAtZeroWrong)

end Rows
end Go.Proofs.Qxb6604276aMods
