/-
  No cell of these rows narrows 'for every input' (looked for: loops, veiled, ifaces, maps, wideKeys, modest, calm, conditions, laid).
  DERIVED. THE GIVEN ROWS OF THIS SEAT. 2 by the template 'for every input the law returns true; each argument reads behind the call as it read before'; 0 by the template 'total and deterministic' (their statements: Qxb6603723aFmtTotals.lean).
  GIVEN WITH THE SEED: the statements are not yours to turn. If you find one false, say at which input.
  Laid BY PROGRAM, IN A SANDBOX (cutbox-rows.mjs): the forced cells as the released guide's own fill.sh prints them over the translation fb1692b34ac1b5e5… (all of the seat's roots in one cut). By AI agents, Wed Nov 11 2026. No macro, syntax, notation, axiom, sorry.
-/
import Derived.Test.Qxb6603723aFmtChecked
import GoSem.Claim
import GoSem.ClaimJoined
import GoSem.ClaimMapViews
import Derived.JoinedTies
import Derived.KernelRfl
namespace Go.Proofs.Qxb6603723aFmt
/- THE CELL 'sum', in the pinned program and in every row, IS THE sha256 OF THE DUMP (.gsa) THAT Qxb6603723aFmtProg.lean LOADS. Nothing in Lean hashes anything: it is a label: what it is worth is what the hold of that sum in a sandbox is worth. -/
noncomputable def Tryf.pinned : Pinned := { name := "qxb6603723afmt", sum := "fb1692b34ac1b5e5a552b1ed2c0a2e846a05787c674ce89c2f389cbf536b30ad", checked := Tryf.checked }
namespace Rows
def none {H : Type} : Left H := { results := [], args := [] }

/-- 'zzlaws_scram_e1.FnSplitPairsParsesExactlyTheGrammar': WHATEVER THE INPUT: true; the input reads as it did. -/
def fnSplitPairsParsesExactlyTheGrammarSpec : ChangeSpec := { name := "fnSplitPairsParsesExactlyTheGrammar", fn := fun _ => fun
  | [d] => { results := [.lit (.bool true)], args := [d] }
  | _ => none }
def fnSplitPairsParsesExactlyTheGrammarRow : OpenClaim := { program := "qxb6603723afmt", sum := "fb1692b34ac1b5e5a552b1ed2c0a2e846a05787c674ce89c2f389cbf536b30ad", func := "example.com/quorumstart/quorumstart/zzlaws_scram_e1.FnSplitPairsParsesExactlyTheGrammar", spec := "fnSplitPairsParsesExactlyTheGrammar", stops := ["fmt.errorf"], inPlace := ["internal/bytealg.IndexByteString", "internal/bytealg.IndexString", "fmt.errorf"], named := ["internal/bytealg.MaxLen"], apart := false }
/-- NO THEOREM (fmt's text is open here; it may be false): for the released tool's asking of the row's closed facts alone. THE STATEMENT IS 'FnSplitPairsParsesExactlyTheGrammarToldSaid' (Qxb6603723aFmtCards.lean). -/
def FnSplitPairsParsesExactlyTheGrammarFormAsk : Prop := fnSplitPairsParsesExactlyTheGrammarRow.holds Tryf.pinned (OpenSpec.ofChange fnSplitPairsParsesExactlyTheGrammarSpec)

/-- ITS FALSE NEIGHBOUR: 'it returns false'. Refute it at one input. -/
def fnSplitPairsParsesExactlyTheGrammarWrong : ChangeSpec := { name := "fnSplitPairsParsesExactlyTheGrammar", fn := fun _ => fun
  | [d] => { results := [.lit (.bool false)], args := [d] }
  | _ => none }
def FnSplitPairsParsesExactlyTheGrammarWrongFormAsk : Prop := fnSplitPairsParsesExactlyTheGrammarRow.holds Tryf.pinned (OpenSpec.ofChange fnSplitPairsParsesExactlyTheGrammarWrong)

/-- 'zzlaws_scram_e1.FnSplitPairsReadsBackWrittenPairs': WHATEVER THE INPUT: true; the input reads as it did. -/
def fnSplitPairsReadsBackWrittenPairsSpec : ChangeSpec := { name := "fnSplitPairsReadsBackWrittenPairs", fn := fun _ => fun
  | [d1, d2, d3] => { results := [.lit (.bool true)], args := [d1, d2, d3] }
  | _ => none }
def fnSplitPairsReadsBackWrittenPairsRow : OpenClaim := { program := "qxb6603723afmt", sum := "fb1692b34ac1b5e5a552b1ed2c0a2e846a05787c674ce89c2f389cbf536b30ad", func := "example.com/quorumstart/quorumstart/zzlaws_scram_e1.FnSplitPairsReadsBackWrittenPairs", spec := "fnSplitPairsReadsBackWrittenPairs", stops := ["fmt.errorf"], inPlace := ["internal/bytealg.IndexByteString", "internal/bytealg.IndexString", "fmt.errorf"], named := ["internal/bytealg.MaxLen"], apart := false }
/-- NO THEOREM (fmt's text is open here; it may be false): for the released tool's asking of the row's closed facts alone. THE STATEMENT IS 'FnSplitPairsReadsBackWrittenPairsToldSaid' (Qxb6603723aFmtCards.lean). -/
def FnSplitPairsReadsBackWrittenPairsFormAsk : Prop := fnSplitPairsReadsBackWrittenPairsRow.holds Tryf.pinned (OpenSpec.ofChange fnSplitPairsReadsBackWrittenPairsSpec)

/-- ITS FALSE NEIGHBOUR: 'it returns false'. Refute it at one input. -/
def fnSplitPairsReadsBackWrittenPairsWrong : ChangeSpec := { name := "fnSplitPairsReadsBackWrittenPairs", fn := fun _ => fun
  | [d1, d2, d3] => { results := [.lit (.bool false)], args := [d1, d2, d3] }
  | _ => none }
def FnSplitPairsReadsBackWrittenPairsWrongFormAsk : Prop := fnSplitPairsReadsBackWrittenPairsRow.holds Tryf.pinned (OpenSpec.ofChange fnSplitPairsReadsBackWrittenPairsWrong)

end Rows
end Go.Proofs.Qxb6603723aFmt
