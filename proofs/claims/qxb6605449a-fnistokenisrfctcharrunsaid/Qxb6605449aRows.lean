/-
  No cell of these rows narrows 'for every input' (looked for: loops, veiled, ifaces, maps, wideKeys, modest, calm, conditions, laid).
  DERIVED. THE GIVEN ROWS OF THIS SEAT. 1 by the template 'for every input the law returns true; each argument reads behind the call as it read before'; 0 by the template 'total and deterministic' (their statements: Qxb6605449aTotals.lean).
  GIVEN WITH THE SEED: the statements are not yours to turn. If you find one false, say at which input.
  Laid BY PROGRAM, IN A SANDBOX (cutbox-rows.mjs): the forced cells as the released guide's own fill.sh prints them over the translation e9ebf244fbdf3d1d… (all of the seat's roots in one cut). By AI agents, Wed Nov 11 2026. No macro, syntax, notation, axiom, sorry.
-/
import Derived.Test.Qxb6605449aChecked
import GoSem.Claim
import GoSem.ClaimJoined
import GoSem.ClaimMapViews
import Derived.JoinedTies
import Derived.KernelRfl
namespace Go.Proofs.Qxb6605449a
/- THE CELL 'sum', in the pinned program and in every row, IS THE sha256 OF THE DUMP (.gsa) THAT Qxb6605449aProg.lean LOADS. Nothing in Lean hashes anything: it is a label: what it is worth is what the hold of that sum in a sandbox is worth. -/
noncomputable def Try.pinned : Pinned := { name := "qxb6605449a", sum := "e9ebf244fbdf3d1d523f10f4700e1b5be5c3e2a9105a6ed10b2419c094e1c0cd", checked := Try.checked }
namespace Rows
def none {H : Type} : Left H := { results := [], args := [] }

/-- 'zzlaws_root_b1.FnIsTokenIsRFCTcharRun': WHATEVER THE INPUT: true; the input reads as it did. -/
def fnIsTokenIsRFCTcharRunSpec : ChangeSpec := { name := "fnIsTokenIsRFCTcharRun", fn := fun _ => fun
  | [d] => { results := [.lit (.bool true)], args := [d] }
  | _ => none }
def fnIsTokenIsRFCTcharRunRow : OpenClaim := { program := "qxb6605449a", sum := "e9ebf244fbdf3d1d523f10f4700e1b5be5c3e2a9105a6ed10b2419c094e1c0cd", func := "example.com/commitbox/commitbox/zzlaws_root_b1.FnIsTokenIsRFCTcharRun", spec := "fnIsTokenIsRFCTcharRun", inPlace := ["internal/bytealg.IndexByteString"], apart := false }
def FnIsTokenIsRFCTcharRunSaid : Prop := fnIsTokenIsRFCTcharRunRow.holds Try.pinned (OpenSpec.ofChange fnIsTokenIsRFCTcharRunSpec)

/-- ITS FALSE NEIGHBOUR: 'it returns false'. Refute it at one input. -/
def fnIsTokenIsRFCTcharRunWrong : ChangeSpec := { name := "fnIsTokenIsRFCTcharRun", fn := fun _ => fun
  | [d] => { results := [.lit (.bool false)], args := [d] }
  | _ => none }
def FnIsTokenIsRFCTcharRunWrongFalsely : Prop := fnIsTokenIsRFCTcharRunRow.holds Try.pinned (OpenSpec.ofChange fnIsTokenIsRFCTcharRunWrong)

end Rows
end Go.Proofs.Qxb6605449a
