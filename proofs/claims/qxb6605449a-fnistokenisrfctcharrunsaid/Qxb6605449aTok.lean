/-
  The plain law: the two descriptions of a token's byte agree. No program.
-/
import Derived.Lib.Bytealg
namespace Go.Proofs.Qxb6605449a

def marks : List UInt8 := [33, 35, 36, 37, 38, 39, 42, 43, 45, 46, 94, 95, 96, 124, 126]
def okN (n : Nat) : Bool := (97 ≤ n && n ≤ 122) || (65 ≤ n && n ≤ 90) || (48 ≤ n && n ≤ 57) || decide (0 ≤ Lib.indexByte marks n.toUInt8)
def tchI (n : Int) : Bool := decide (33 ≤ n ∧ n ≤ 126 ∧ n ≠ 34 ∧ n ≠ 40 ∧ n ≠ 41 ∧ n ≠ 44 ∧ n ≠ 47 ∧ n ≠ 58 ∧ n ≠ 59 ∧ n ≠ 60 ∧ n ≠ 61 ∧ n ≠ 62 ∧ n ≠ 63 ∧ n ≠ 64 ∧ n ≠ 91 ∧ n ≠ 92 ∧ n ≠ 93 ∧ n ≠ 123 ∧ n ≠ 125)
theorem agree : ∀ n, n < 256 → okN n = tchI n := by decide +kernel

def okU (c : UInt8) : Bool := okN c.toNat
def tchU (c : UInt8) : Bool := tchI c.toNat
theorem agreeU (c : UInt8) : okU c = tchU c := agree c.toNat c.toNat_lt
def isTok (l : List UInt8) : Bool := !l.isEmpty && l.all okU
def want (l : List UInt8) : Bool := !l.isEmpty && l.all tchU
theorem tok_want (l : List UInt8) : isTok l = want l := by
  unfold isTok want
  rw [show okU = tchU from funext agreeU]

end Go.Proofs.Qxb6605449a
