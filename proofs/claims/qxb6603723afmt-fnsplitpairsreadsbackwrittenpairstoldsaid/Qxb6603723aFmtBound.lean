/-
  The length bound of the second law: it answers a bool and turns nothing.
-/
import Derived.Test.Qxb6603723aFmtLeaf
namespace Go.Proofs.Qxb6603723aFmt
open Go.RowKit

def Small (ss : List ByteArray) (k : Nat) : Prop := ∀ j, j < k → (ss.getD j ByteArray.empty).size ≤ 1048576
theorem Small.succ {ss : List ByteArray} {k : Nat} (h : Small ss k) (h2 : (ss.getD k ByteArray.empty).size ≤ 1048576) : Small ss (k + 1) := by
  intro j hj
  by_cases e : j = k
  · rw [e]; exact h2
  · exact h j (by omega)
def IsBool (e : Ending) (p : Prop) : Prop := ∃ b, e = .returned (.bool b) ∧ (b = true → p)
theorem IsBool.no (p : Prop) : IsBool (.returned (.bool false)) p := ⟨false, rfl, by simp⟩
theorem IsBool.yes {p : Prop} (h : p) : IsBool (.returned (.bool true)) p := ⟨true, rfl, fun _ => h⟩

set_option maxHeartbeats 4000000 in
theorem zzBytesR_any (ak av ab : Option Addr) (ck cv nb cb : Nat) (ks vs : List ByteArray) (hk : ks.length ≤ maxLen) (hv : vs.length ≤ maxLen) (hb : nb ≤ maxLen)
    (hks : ∀ k, k < ks.length → (ks.getD k ByteArray.empty).size ≤ maxLen) (hvs : ∀ k, k < vs.length → (vs.getD k ByteArray.empty).size ≤ maxLen) (w : World) (hx : Str w ak ks) (hy : Str w av vs) :
    Calls Tryf.prog 9 #[.slice ak ks.length ck, .slice av vs.length cv, .slice ab nb cb] w fun e w' => IsBool e (Small ks ks.length ∧ Small vs vs.length) ∧ w' = w := by
  have HX : Hid (Str w ak ks) := hx
  have HY : Hid (Str w av vs) := hy
  have HKS : Hid (∀ k, k < ks.length → (ks.getD k ByteArray.empty).size ≤ maxLen) := hks
  have HVS : Hid (∀ k, k < vs.length → (vs.getD k ByteArray.empty).size ≤ maxLen) := hvs
  clear hx hy hks hvs
  unfold maxLen at hk hv hb
  by_cases hk2 : (1048576 : Int) < ks.length
  · go_enter Tryf.func9, Tryf.ntmps9
    go_wp2
    go_ret
    exact ⟨IsBool.no _, rfl⟩
  go_enter Tryf.func9, Tryf.ntmps9
  go_wp2
  go_loop [7, 8] (fun z i => ∃ (k : Nat) (y : Int), k ≤ ks.length ∧ i = .int .i64 k ∧ z = .int .i64 y ∧ 0 ≤ y ∧ y ≤ 1048576 ∧ Hid (Small ks k)) (fun _ i => ks.length - (intOf i).toNat)
  case atStart => exact ⟨0, _, Nat.zero_le _, rfl, rfl, by omega, by omega, fun j hj => absurd hj (by omega)⟩
  case round =>
    obtain ⟨k, y, hkk, rfl, rfl, hy1, hy2, hsm⟩ := hrel
    by_cases hlt : k < ks.length
    · obtain ⟨b1, o1, rfl, c1⟩ := HX.out k hlt
      obtain ⟨x, hx⟩ : ∃ x, x = ks.getD k ByteArray.empty := ⟨_, rfl⟩
      have hxs := HKS.out k hlt
      rw [← hx] at c1 hxs
      unfold maxLen at hxs
      have HX2 : Hid (x = ks.getD k ByteArray.empty) := hx
      clear hx
      go_wp2
      · go_ret
        exact ⟨IsBool.no _, rfl⟩
      · go_ret
        exact ⟨IsBool.no _, rfl⟩
      · go_round
        case rel => exact ⟨k + 1, _, by omega, by go_num, rfl, by omega, by omega, hsm.out.succ (by rw [← HX2.out]; omega)⟩
        case measure => simp [intOf]; omega
    · have HSM : Hid (Small ks ks.length) := by have e : k = ks.length := by omega
                                                rw [← e]; exact hsm
      clear hsm
      by_cases hv2 : (1048576 : Int) < vs.length
      · go_wp2
        go_ret
        exact ⟨IsBool.no _, rfl⟩
      by_cases hv3 : (1048576 : Int) < y + vs.length
      · go_wp2
        go_ret
        exact ⟨IsBool.no _, rfl⟩
      go_wp2
      go_loop [7, 9] (fun z i => ∃ (k : Nat) (y : Int), k ≤ vs.length ∧ i = .int .i64 k ∧ z = .int .i64 y ∧ 0 ≤ y ∧ y ≤ 1048576 ∧ Hid (Small vs k)) (fun _ i => vs.length - (intOf i).toNat)
      case atStart => exact ⟨0, _, Nat.zero_le _, rfl, rfl, by omega, by omega, fun j hj => absurd hj (by omega)⟩
      case round =>
        obtain ⟨k, y, hkk, rfl, rfl, hy1, hy2, hsv⟩ := hrel
        by_cases hlt : k < vs.length
        · obtain ⟨b1, o1, rfl, c1⟩ := HY.out k hlt
          obtain ⟨x, hx⟩ : ∃ x, x = vs.getD k ByteArray.empty := ⟨_, rfl⟩
          have hxs := HVS.out k hlt
          rw [← hx] at c1 hxs
          unfold maxLen at hxs
          have HX2 : Hid (x = vs.getD k ByteArray.empty) := hx
          clear hx
          go_wp2
          · go_ret
            exact ⟨IsBool.no _, rfl⟩
          · go_ret
            exact ⟨IsBool.no _, rfl⟩
          · go_round
            case rel => exact ⟨k + 1, _, by omega, by go_num, rfl, by omega, by omega, hsv.out.succ (by rw [← HX2.out]; omega)⟩
            case measure => simp [intOf]; omega
        · have HSK : Hid (Small ks ks.length ∧ Small vs vs.length) := ⟨HSM.out, by have e : k = vs.length := by omega
                                                                                   rw [← e]; exact hsv.out⟩
          go_wp2
          all_goals
            go_ret
            first | exact ⟨IsBool.no _, rfl⟩ | exact ⟨IsBool.yes HSK.out, rfl⟩

end Go.Proofs.Qxb6603723aFmt
