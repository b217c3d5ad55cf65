/-
  The law's own small functions: hasByte, sameList, the two length bounds.
-/
import Derived.Test.Qxb6603723aFmtProg
import Derived.Test.Qxb6603723aFmtBytes
import Derived.WalkKit
import Derived.WalkSmall
namespace Go.Proofs.Qxb6603723aFmt
open Go.RowKit

def hasB (l : List UInt8) (c : Int) : Bool := l.any fun b => (b.toNat : Int) == c
theorem hasB_snoc (l : List UInt8) (b : UInt8) (c : Int) : hasB (l ++ [b]) c = (hasB l c || ((b.toNat : Int) == c)) := by simp [hasB]
theorem take_snoc (s : ByteArray) (k : Nat) (h : k < s.size) : s.data.toList.take (k + 1) = s.data.toList.take k ++ [s[k]] := by
  rw [List.take_succ_eq_append_getElem (by simpa using h)]; rfl
theorem hasB_take {l : List UInt8} {c : Int} (k : Nat) (h : hasB (l.take k) c = true) : hasB l c = true := by
  unfold hasB at *
  rw [List.any_eq_true] at *
  obtain ⟨x, hx, hc⟩ := h
  exact ⟨x, List.mem_of_mem_take hx, hc⟩
theorem ret_bool {a b : Bool} (h : a = b) : Ending.returned (.bool a) = .returned (.bool b) := by rw [h]

set_option maxHeartbeats 1000000 in
theorem hasByte_any (s : ByteArray) (c : Int) (hs : s.size ≤ 1048576) (w : World) :
    Calls Tryf.prog 10 #[.string s, .int .u8 c] w fun e w' => e = .returned (.bool (hasB s.data.toList c)) ∧ w' = w := by
  go_enter Tryf.func10, Tryf.ntmps10
  go_wp2
  go_loop [5] (fun i => ∃ k : Nat, k ≤ s.size ∧ i = .int .i64 k ∧ Hid (hasB (s.data.toList.take k) c = false)) (fun i => s.size - (intOf i).toNat)
  case atStart => exact ⟨0, Nat.zero_le _, rfl, by simp [Hid, hasB]⟩
  case round =>
    obtain ⟨k, hk, rfl, hno⟩ := hrel
    by_cases hlt : k < s.size
    · have HS : Hid (hasB (s.data.toList.take (k + 1)) c = (hasB (s.data.toList.take k) c || ((s[k].toNat : Int) == c))) := by rw [take_snoc s k hlt]; exact hasB_snoc _ _ _
      cases hq : ((s[k].toNat : Int) == c)
      · go_wp2
        go_round
        case rel => exact ⟨k + 1, by omega, by go_num, by rw [HS.out, hno.out, hq]; rfl⟩
        case measure => simp [intOf]; omega
      · go_wp2
        go_ret
        exact ⟨ret_bool (hasB_take (k + 1) (by rw [HS.out, hq]; simp)).symm, rfl⟩
    · go_wp2
      go_ret
      exact ⟨ret_bool (by have := hno.out; rw [List.take_of_length_le (by rw [size_list]; omega)] at this; exact this.symm), rfl⟩

def Str (w : World) (ao : Option Addr) (ss : List ByteArray) : Prop :=
  ∀ k, k < ss.length → ∃ b off, ao = some ⟨b, off, none⟩ ∧ w.cell? ⟨b, off + k, none⟩ = some (.string (ss.getD k ByteArray.empty))

theorem Str.below {w w' : World} {ao : Option Addr} {ss : List ByteArray} (h : Str w ao ss) (hb : Below w.heap.size w w') : Str w' ao ss := by
  intro k hk
  obtain ⟨b, off, e, hc⟩ := h k hk
  exact ⟨b, off, e, (hb.cell (p := ⟨b, off + k, none⟩) (World.block_lt_of_cell? w _ hc)).trans hc⟩

set_option maxHeartbeats 1000000 in
theorem same_true (ax ay : Option Addr) (cx cy : Nat) (ss : List ByteArray) (hn : ss.length ≤ 1048576) (w : World) (hx : Str w ax ss) (hy : Str w ay ss) :
    Calls Tryf.prog 11 #[.slice ax ss.length cx, .slice ay ss.length cy] w fun e w' => e = .returned (.bool true) ∧ ∃ n, w' = w.drewN n := by
  have HX : Hid (Str w ax ss) := hx
  have HY : Hid (Str w ay ss) := hy
  clear hx hy
  go_enter Tryf.func11, Tryf.ntmps11
  go_wp2
  go_loopw [5] (fun i wr => ∃ k n : Nat, k ≤ ss.length ∧ i = .int .i64 k ∧ wr = w.drewN n) (fun i _ => ss.length - (intOf i).toNat)
  case atStart => exact ⟨0, 0, Nat.zero_le _, rfl, rfl⟩
  case round =>
    obtain ⟨k, n, hk, rfl, rfl⟩ := hrel
    by_cases hlt : k < ss.length
    · obtain ⟨b1, o1, rfl, c1⟩ := HX.out k hlt
      obtain ⟨b2, o2, rfl, c2⟩ := HY.out k hlt
      obtain ⟨x, hx⟩ : ∃ x, x = ss.getD k ByteArray.empty := ⟨_, rfl⟩
      rw [← hx] at c1 c2
      clear hx
      go_wp2
      go_region
      all_goals (try go_wp2)
      all_goals
        go_roundw
        case rel => exact ⟨k + 1, _, by omega, by go_num, rfl⟩
        case measure => simp [intOf]; omega
    · go_wp2
      go_ret
      exact ⟨rfl, n, rfl⟩

end Go.Proofs.Qxb6603723aFmt
