/-
  fmt.Errorf at a format with one verb d and one int operand: it hands back a new error that is not nil; whatever the text. Nothing old has turned.
-/
import Derived.Test.Qxb6603723aFmtProg
import Derived.Stop.CallBack
import Derived.Stop.IfaceNil
import GoSem.ClaimData
import Derived.WalkKit
namespace Go.Proofs.Qxb6603723aFmt
open Go.RowKit Go.Extern.Stop Go.Stop Go.Extern

theorem call22 (args : Array Value) (w : World) : (callFunc 22 args).run Tryf.prog w = ((FmtStop.errorf #[9, 49] #[25] args).run Tryf.prog w).andThen fun v w' => .ok (.value v) w' :=
  run_callFunc_extern Tryf.func22 (by kernel_rfl) (by kernel_rfl) (by kernel_rfl) (by kernel_rfl) args w
theorem guardF (name : String) (w : World) : (FmtStop.guard name).run Tryf.prog w = .ok () w := by kernel_rfl
def shape3 : List UInt8 := [5, 3, 0, 0, 0, 0, 0, 0, 0, 105, 110, 116]
theorem op3_100w (name : String) (x : Int) (w : World) : (FmtStop.operand name true 100 false (.iface 3 (.int .i64 x))).run Tryf.prog w = .ok (shape3, Go.Extern.Stop.digits 8 (x % 2 ^ 64).toNat) w := by kernel_rfl
theorem ptr52 (w : World) : (FmtStop.ptrTo "errors.errorString").run Tryf.prog w = .ok 52 w := by kernel_rfl
theorem elem52 (w : World) : (elemOf 52).run Tryf.prog w = .ok 54 w := by kernel_rfl
attribute [local go_sem] call22 guardF op3_100w ptr52 elem52

def fm1 : ByteArray := ⟨#[112, 97, 105, 114, 32, 37, 100, 32, 105, 115, 32, 110, 111, 116, 32, 107, 101, 121, 61, 118, 97, 108, 117, 101]⟩
def fm2 : ByteArray := ⟨#[112, 97, 105, 114, 32, 37, 100, 58, 32, 116, 104, 101, 32, 113, 117, 111, 116, 101, 100, 32, 118, 97, 108, 117, 101, 32, 104, 97, 115, 32, 110, 111, 32, 99, 108, 111, 115, 105, 110, 103, 32, 113, 117, 111, 116, 101]⟩
def fm3 : ByteArray := ⟨#[112, 97, 105, 114, 32, 37, 100, 58, 32, 116, 104, 101, 32, 113, 117, 111, 116, 101, 100, 32, 118, 97, 108, 117, 101, 32, 105, 115, 32, 102, 111, 108, 108, 111, 119, 101, 100, 32, 98, 121, 32, 109, 111, 114, 101, 32, 116, 104, 97, 110, 32, 97, 32, 99, 111, 109, 109, 97]⟩
def fm4 : ByteArray := ⟨#[112, 97, 105, 114, 32, 37, 100, 32, 105, 115, 32, 102, 111, 108, 108, 111, 119, 101, 100, 32, 98, 121, 32, 97, 32, 99, 111, 109, 109, 97, 32, 97, 110, 100, 32, 110, 111, 116, 104, 105, 110, 103, 32, 101, 108, 115, 101]⟩

set_option maxHeartbeats 1000000 in
theorem errorf_any (f : ByteArray) (n : Int) (blk : Nat) (w : World)
    (hp : ∀ w, (FmtDoors.printed f 1).run Tryf.prog w = .ok [(0, 100, false)] w)
    (hc0 : w.cell? ⟨blk, 0, none⟩ = some (.iface 3 (.int .i64 n))) :
    Calls Tryf.prog 17 #[.string f, .slice (some ⟨blk, 0, none⟩) 1 1] w fun e w' =>
      (∃ b, e = .returned (.iface 52 (.pointer (some ⟨b, 0, none⟩)))) ∧ Below w.heap.size w w' := by
  go_enter Tryf.func17, Tryf.ntmps17
  go_wp2
  go_ret
  exact ⟨⟨_, rfl⟩, ((Below.refl _ _).alloc (Nat.le_refl _) _).drew⟩

theorem errorf1 (n : Int) (blk : Nat) (w : World) (hc0 : w.cell? ⟨blk, 0, none⟩ = some (.iface 3 (.int .i64 n))) :
    Calls Tryf.prog 17 #[.string ⟨#[112, 97, 105, 114, 32, 37, 100, 32, 105, 115, 32, 110, 111, 116, 32, 107, 101, 121, 61, 118, 97, 108, 117, 101]⟩, .slice (some ⟨blk, 0, none⟩) 1 1] w fun e w' =>
      (∃ b, e = .returned (.iface 52 (.pointer (some ⟨b, 0, none⟩)))) ∧ Below w.heap.size w w' := errorf_any fm1 n blk w (fun w => by kernel_rfl) hc0
theorem errorf2 (n : Int) (blk : Nat) (w : World) (hc0 : w.cell? ⟨blk, 0, none⟩ = some (.iface 3 (.int .i64 n))) :
    Calls Tryf.prog 17 #[.string ⟨#[112, 97, 105, 114, 32, 37, 100, 58, 32, 116, 104, 101, 32, 113, 117, 111, 116, 101, 100, 32, 118, 97, 108, 117, 101, 32, 104, 97, 115, 32, 110, 111, 32, 99, 108, 111, 115, 105, 110, 103, 32, 113, 117, 111, 116, 101]⟩, .slice (some ⟨blk, 0, none⟩) 1 1] w fun e w' =>
      (∃ b, e = .returned (.iface 52 (.pointer (some ⟨b, 0, none⟩)))) ∧ Below w.heap.size w w' := errorf_any fm2 n blk w (fun w => by kernel_rfl) hc0
theorem errorf3 (n : Int) (blk : Nat) (w : World) (hc0 : w.cell? ⟨blk, 0, none⟩ = some (.iface 3 (.int .i64 n))) :
    Calls Tryf.prog 17 #[.string ⟨#[112, 97, 105, 114, 32, 37, 100, 58, 32, 116, 104, 101, 32, 113, 117, 111, 116, 101, 100, 32, 118, 97, 108, 117, 101, 32, 105, 115, 32, 102, 111, 108, 108, 111, 119, 101, 100, 32, 98, 121, 32, 109, 111, 114, 101, 32, 116, 104, 97, 110, 32, 97, 32, 99, 111, 109, 109, 97]⟩, .slice (some ⟨blk, 0, none⟩) 1 1] w fun e w' =>
      (∃ b, e = .returned (.iface 52 (.pointer (some ⟨b, 0, none⟩)))) ∧ Below w.heap.size w w' := errorf_any fm3 n blk w (fun w => by kernel_rfl) hc0
theorem errorf4 (n : Int) (blk : Nat) (w : World) (hc0 : w.cell? ⟨blk, 0, none⟩ = some (.iface 3 (.int .i64 n))) :
    Calls Tryf.prog 17 #[.string ⟨#[112, 97, 105, 114, 32, 37, 100, 32, 105, 115, 32, 102, 111, 108, 108, 111, 119, 101, 100, 32, 98, 121, 32, 97, 32, 99, 111, 109, 109, 97, 32, 97, 110, 100, 32, 110, 111, 116, 104, 105, 110, 103, 32, 101, 108, 115, 101]⟩, .slice (some ⟨blk, 0, none⟩) 1 1] w fun e w' =>
      (∃ b, e = .returned (.iface 52 (.pointer (some ⟨b, 0, none⟩)))) ∧ Below w.heap.size w w' := errorf_any fm4 n blk w (fun w => by kernel_rfl) hc0

end Go.Proofs.Qxb6603723aFmt
