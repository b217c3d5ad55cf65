/-
  DERIVED. GIVEN WITH THE SEED: THE CARDS: each row of Qxb6603723aFmtRows.lean that lists a variable, with what it lists TIED to the program's text (the seventh form; the later family's looks); each row that meets fmt, with fmt's text TOLD by the authors' own Lean function (tested against real Go, not proved from fmt's source: count such statements apart). THE CARD IS WHAT COUNTS. Prove the row's statement (the work); the ties are given (Qxb6603723aFmtTie.lean); close each card by the builder's one call (the guide's Derived/Test/ToyasCard.lean, 'card_holds'). Laid BY PROGRAM, IN A SANDBOX (cutbox-door.mjs). By AI agents, Wed Nov 11 2026. No macro, syntax, notation, axiom, sorry.
-/
import Derived.Test.Qxb6603723aFmtRows
import GoSem.ClaimSeven
namespace Go.Proofs.Qxb6603723aFmt
namespace Rows

/-- THE TOLD CARD OF 'zzlaws_scram_e1.FnSplitPairsParsesExactlyTheGrammar'. -/
def fnSplitPairsParsesExactlyTheGrammarCard : Claim7 := { stood := { row := fnSplitPairsParsesExactlyTheGrammarRow, standIns := [], harness := (true, "d5262e0c8ec0099514e36ebeccbc89036d563acb273cedfcaa005cd8468495a4"), looks := false }, told := true, goes := false }
def FnSplitPairsParsesExactlyTheGrammarToldSaid : Prop := Claim7.holds Tryf.pinned (.plain (OpenSpec.ofChange fnSplitPairsParsesExactlyTheGrammarSpec)) fnSplitPairsParsesExactlyTheGrammarCard
/-- ITS FALSE NEIGHBOUR. Refute it at one input. -/
def FnSplitPairsParsesExactlyTheGrammarToldWrongFalsely : Prop := Claim7.holds Tryf.pinned (.plain (OpenSpec.ofChange fnSplitPairsParsesExactlyTheGrammarWrong)) fnSplitPairsParsesExactlyTheGrammarCard

/-- THE TOLD CARD OF 'zzlaws_scram_e1.FnSplitPairsReadsBackWrittenPairs'. -/
def fnSplitPairsReadsBackWrittenPairsCard : Claim7 := { stood := { row := fnSplitPairsReadsBackWrittenPairsRow, standIns := [], harness := (true, "d5262e0c8ec0099514e36ebeccbc89036d563acb273cedfcaa005cd8468495a4"), looks := false }, told := true, goes := false }
def FnSplitPairsReadsBackWrittenPairsToldSaid : Prop := Claim7.holds Tryf.pinned (.plain (OpenSpec.ofChange fnSplitPairsReadsBackWrittenPairsSpec)) fnSplitPairsReadsBackWrittenPairsCard
/-- ITS FALSE NEIGHBOUR. Refute it at one input. -/
def FnSplitPairsReadsBackWrittenPairsToldWrongFalsely : Prop := Claim7.holds Tryf.pinned (.plain (OpenSpec.ofChange fnSplitPairsReadsBackWrittenPairsWrong)) fnSplitPairsReadsBackWrittenPairsCard
end Rows
end Go.Proofs.Qxb6603723aFmt
