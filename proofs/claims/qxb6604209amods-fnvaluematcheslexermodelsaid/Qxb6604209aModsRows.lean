/-
  No cell of these rows narrows 'for every input' (looked for: loops, veiled, ifaces, maps, wideKeys, modest, calm, conditions, laid).
  DERIVED. THE GIVEN ROWS OF THIS SEAT. 2 by the template 'for every input the law returns true; each argument reads behind the call as it read before'; 0 by the template 'total and deterministic' (their statements: Qxb6604209aModsTotals.lean).
  GIVEN WITH THE SEED: the statements are not yours to turn. If you find one false, say at which input.
  Laid BY PROGRAM, IN A SANDBOX (cutbox-rows.mjs): the forced cells as the released guide's own fill.sh prints them over the translation 4251df3efaa4cfcd… (all of the seat's roots in one cut). By AI agents, Wed Nov 11 2026. No macro, syntax, notation, axiom, sorry.
-/
import Derived.Test.Qxb6604209aModsChecked
import GoSem.Claim
import GoSem.ClaimJoined
import GoSem.ClaimMapViews
import Derived.JoinedTies
import Derived.KernelRfl
namespace Go.Proofs.Qxb6604209aMods
/- THE CELL 'sum', in the pinned program and in every row, IS THE sha256 OF THE DUMP (.gsa) THAT Qxb6604209aModsProg.lean LOADS. Nothing in Lean hashes anything: it is a label: what it is worth is what the hold of that sum in a sandbox is worth. -/
noncomputable def Trym.pinned : Pinned := { name := "qxb6604209amods", sum := "4251df3efaa4cfcdc43962af549f4349be33990f0b7686d541ebe29d08a43640", checked := Trym.checked }
namespace Rows
def none {H : Type} : Left H := { results := [], args := [] }

/-- 'zzlaws_pkg_jsonfile_b1.FnSkipStringStopsAtFirstUnescapedQuote': WHATEVER THE INPUT: true; the input reads as it did. -/
def fnSkipStringStopsAtFirstUnescapedQuoteSpec : ChangeSpec := { name := "fnSkipStringStopsAtFirstUnescapedQuote", fn := fun _ => fun
  | [d1, d2] => { results := [.lit (.bool true)], args := [d1, d2] }
  | _ => none }
def fnSkipStringStopsAtFirstUnescapedQuoteRow : OpenClaim := { program := "qxb6604209amods", sum := "4251df3efaa4cfcdc43962af549f4349be33990f0b7686d541ebe29d08a43640", func := "example.com/vestbook/vestbook/zzlaws_pkg_jsonfile_b1.FnSkipStringStopsAtFirstUnescapedQuote", spec := "fnSkipStringStopsAtFirstUnescapedQuote", make := .lifted ["publicsums"], apart := false }
def FnSkipStringStopsAtFirstUnescapedQuoteSaid : Prop := fnSkipStringStopsAtFirstUnescapedQuoteRow.holds Trym.pinned (OpenSpec.ofChange fnSkipStringStopsAtFirstUnescapedQuoteSpec)

/-- ITS FALSE NEIGHBOUR: 'it returns false'. Refute it at one input. -/
def fnSkipStringStopsAtFirstUnescapedQuoteWrong : ChangeSpec := { name := "fnSkipStringStopsAtFirstUnescapedQuote", fn := fun _ => fun
  | [d1, d2] => { results := [.lit (.bool false)], args := [d1, d2] }
  | _ => none }
def FnSkipStringStopsAtFirstUnescapedQuoteWrongFalsely : Prop := fnSkipStringStopsAtFirstUnescapedQuoteRow.holds Trym.pinned (OpenSpec.ofChange fnSkipStringStopsAtFirstUnescapedQuoteWrong)

/-- 'zzlaws_pkg_jsonfile_b1.FnValueMatchesLexerModel': WHATEVER THE INPUT: true; the input reads as it did. -/
def fnValueMatchesLexerModelSpec : ChangeSpec := { name := "fnValueMatchesLexerModel", fn := fun _ => fun
  | [d1, d2] => { results := [.lit (.bool true)], args := [d1, d2] }
  | _ => none }
def fnValueMatchesLexerModelRow : OpenClaim := { program := "qxb6604209amods", sum := "4251df3efaa4cfcdc43962af549f4349be33990f0b7686d541ebe29d08a43640", func := "example.com/vestbook/vestbook/zzlaws_pkg_jsonfile_b1.FnValueMatchesLexerModel", spec := "fnValueMatchesLexerModel", make := .lifted ["publicsums"], apart := false }
def FnValueMatchesLexerModelSaid : Prop := fnValueMatchesLexerModelRow.holds Trym.pinned (OpenSpec.ofChange fnValueMatchesLexerModelSpec)

/-- ITS FALSE NEIGHBOUR: 'it returns false'. Refute it at one input. -/
def fnValueMatchesLexerModelWrong : ChangeSpec := { name := "fnValueMatchesLexerModel", fn := fun _ => fun
  | [d1, d2] => { results := [.lit (.bool false)], args := [d1, d2] }
  | _ => none }
def FnValueMatchesLexerModelWrongFalsely : Prop := fnValueMatchesLexerModelRow.holds Trym.pinned (OpenSpec.ofChange fnValueMatchesLexerModelWrong)

end Rows
end Go.Proofs.Qxb6604209aMods
