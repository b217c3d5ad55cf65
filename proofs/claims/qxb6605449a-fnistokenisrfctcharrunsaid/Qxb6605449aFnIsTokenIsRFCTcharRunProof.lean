/-
  FnIsTokenIsRFCTcharRun: the row, proved. (The frame after the shell that the tool wrote for this function; the world behind the call by Below.)
-/
import Derived.Test.Qxb6605449aRows
import Derived.Test.Qxb6605449aTokWalk
import Derived.WalkKit
import Derived.ProofKit
import Derived.OpenShut
import Derived.ShutString
namespace Go.Proofs.Qxb6605449a.fnIsTokenIsRFCTcharRun
open Go.ChangeShapes Go.WideShapes Go.ChangeAt Go.RowKit
open Go.ChangeMaps (open_string shut_string)

theorem own : ownKnob Try.prog.godebug = none := by kernel_rfl

theorem zzBytes_yes (s : ByteArray) (hs : s.size ≤ 1048576) (w : World) : Calls Try.prog 4 #[.string s] w fun e w' => e = .returned (.bool true) ∧ w' = w := by
  go_enter Try.func4, Try.ntmps4
  go_wp2
  go_ret
  exact ⟨rfl, rfl⟩
theorem zzBytes_no (s : ByteArray) (h1 : s.size ≤ maxLen) (hs : ¬ s.size ≤ 1048576) (w : World) : Calls Try.prog 4 #[.string s] w fun e w' => e = .returned (.bool false) ∧ w' = w := by
  unfold maxLen at h1
  go_enter Try.func4, Try.ntmps4
  go_wp2
  go_ret
  exact ⟨rfl, rfl⟩
theorem zzTok (s : ByteArray) (hs : s.size ≤ 1048576) (w : World) : Calls Try.prog 6 #[.string s] w fun e w' => e = .returned (.bool (want s.data.toList)) ∧ Below w.heap.size w w' := by
  go_enter Try.func6, Try.ntmps6
  go_wp2_with (go_at_call 7; refine (isToken_any s hs _).mono ?_; rintro e w1 ⟨rfl, hb⟩)
  go_ret
  exact ⟨ret_bool (tok_want _), hb⟩

/-- The want so far. -/
def wantK (s : ByteArray) (k : Nat) : Bool := decide (0 < (s.size : Int)) && (s.data.toList.take k).all tchU
theorem wantK_full (s : ByteArray) : wantK s s.size = want s.data.toList := by
  unfold wantK want
  rw [List.take_of_length_le (by rw [size_list]; omega)]
  congr 1
  rw [← size_list]
  cases s.data.toList <;> simp
theorem wantK_zero (s : ByteArray) : wantK s 0 = decide (0 < (s.size : Int)) := by simp [wantK]
theorem wantK_succ (s : ByteArray) (k : Nat) (h : k < s.size) : wantK s (k + 1) = (wantK s k && tchU s[k]) := by
  unfold wantK; rw [take_snoc s k h, List.all_append]; simp [Bool.and_assoc]

set_option maxHeartbeats 1000000 in
theorem walk (a0 : ByteArray) (w0 : a0.size ≤ maxLen) (w : World) :
    Calls Try.prog 3 #[.string a0] w fun e w' => e = .returned (.bool true) ∧ Below w.heap.size w w' := by
  by_cases hb : a0.size ≤ 1048576
  rotate_left
  · go_enter Try.func3, Try.ntmps3
    go_wp2_with (go_at_call 4; refine (zzBytes_no a0 w0 hb _).mono ?_; rintro e w1 ⟨rfl, rfl⟩)
    go_ret
    exact ⟨rfl, Below.refl _ _⟩
  unfold maxLen at w0
  obtain ⟨base, hbase⟩ : ∃ b, b = w.heap.size := ⟨_, rfl⟩
  rw [← hbase]
  have HBS : Hid (base = w.heap.size) := hbase
  clear hbase
  go_enter Try.func3, Try.ntmps3
  go_wp2_with (go_at_call 4; refine (zzBytes_yes a0 hb _).mono ?_; rintro e w1 ⟨rfl, hw⟩; rw [hw]; clear hw)
  go_loop [3, 4] (fun q i => ∃ k : Nat, k ≤ a0.size ∧ i = .int .i64 k ∧ q = .bool (wantK a0 k)) (fun _ i => a0.size - (intOf i).toNat)
  case atStart => exact ⟨0, Nat.zero_le _, rfl, by rw [wantK_zero]; simp⟩
  case round =>
    obtain ⟨k, hk, rfl, rfl⟩ := hrel
    by_cases hlt : k < a0.size
    · have HS : Hid (wantK a0 (k + 1) = (wantK a0 k && tchU a0[k])) := wantK_succ a0 k hlt
      obtain ⟨q, hq⟩ : ∃ q, q = wantK a0 k := ⟨_, rfl⟩
      rw [← hq]
      have HQ : Hid (q = wantK a0 k) := hq
      clear hq
      cases ht : tchI (a0[k].toNat : Int)
      · go_wp2_with (go_at_call 5; refine (tchar_any _ _).mono ?_; rintro e w1 ⟨rfl, rfl⟩; rw [ht])
        go_round
        case rel => exact ⟨k + 1, by omega, by go_num, by rw [HS.out, show tchU a0[k] = false from ht]; simp⟩
        case measure => simp [intOf]; omega
      · go_wp2_with (go_at_call 5; refine (tchar_any _ _).mono ?_; rintro e w1 ⟨rfl, rfl⟩; rw [ht])
        go_round
        case rel => exact ⟨k + 1, by omega, by go_num, by rw [HS.out, show tchU a0[k] = true from ht, HQ.out]; simp⟩
        case measure => simp [intOf]; omega
    · have HF : Hid (wantK a0 k = want a0.data.toList) := by
        have e : k = a0.size := by omega
        rw [e]; exact wantK_full a0
      obtain ⟨q, hq⟩ : ∃ q, q = want a0.data.toList := ⟨_, rfl⟩
      rw [show wantK a0 k = q from by rw [hq]; exact HF.out]
      have HQ : Hid (q = want a0.data.toList) := hq
      clear hq HF
      go_wp2_with (go_at_call 6; refine (zzTok a0 hb _).mono ?_; rintro e w1 ⟨rfl, hb1⟩; rw [← HQ.out])
      go_ret
      exact ⟨ret_bool (by simp), by rw [HBS.out]; exact hb1⟩

set_option maxRecDepth 100000 in
theorem lifted (os : Os) (started : os.Started) (H : Type) (enc : TypeId × Value → H) :
    ReturnsInHanded {} Try.checked os 3 .any (Rows.fnIsTokenIsRFCTcharRunSpec.pre6 enc Try.prog Try.f3 Rows.fnIsTokenIsRFCTcharRunRow.domain false) (Rows.fnIsTokenIsRFCTcharRunSpec.post enc Try.prog Try.f3 false true false false) := by
  refine returnsInHanded_of_change (C := Try.checked) own started (by kernel_rfl) Try.func3
    (ChangeSpec.witness6 (enc := enc) (C := Try.checked) false ⟨#[], #[.string ByteArray.empty], []⟩ 8 (by kernel_rfl) (by kernel_rfl) (by kernel_rfl) (by kernel_rfl)) ?_
  intro W base args ds gs before hval0 hW hcnd _
  have hval : ∀ (j : Nat) t v, Try.f3.params[j]? = some t → args[j]? = some v → Value.okWide Try.prog W .any base t v := hval0
  have hW' := hW
  obtain ⟨p, q, hA0, hV, rfl, hfz, hnd⟩ := hW
  have hA : DataW.TrodAll enc Try.prog W 0 (fun _ => true) true Try.f3.params.toList args.toList ds p := hA0
  rw [Try.params3] at hA hval
  obtain ⟨v0, d0, rfl, rfl, h0⟩ := trodAll_one hA
  obtain ⟨rfl, rfl⟩ := trodVars_none hV
  obtain ⟨a0, rfl, rfl, rfl, w0⟩ := open_string Try.underlying9 (hval 0 9 v0 rfl rfl) h0
  clear hA0 hval0
  refine (walk a0 w0 W).mono fun e W' ⟨he, hg⟩ => ?_
  subst he
  refine ⟨_, rfl, _, _, _, [], [], [], hW', ?_, ?_, rfl, hg.frame _, fun h => by cases h⟩
  · exact trodAll_mk1 (shut_bool Try.underlying4 _)
  · exact trodAll_mk1 (shut_string Try.underlying9 w0)

theorem over : Rows.fnIsTokenIsRFCTcharRunRow.holds Try.pinned (OpenSpec.ofChange Rows.fnIsTokenIsRFCTcharRunSpec) :=
  OpenClaim.holds_of_wide 3 Try.f3 rfl rfl rfl rfl rfl rfl rfl ⟨rfl, rfl, rfl, rfl, rfl⟩ rfl rfl rfl rfl rfl (by kernel_rfl) Try.func3 (by kernel_rfl)
    (of_decide_eq_true (by kernel_rfl)) (by unfold Func.isWrapper; first | (rw [if_pos (by decide +kernel)]; kernel_rfl) | (rw [if_neg (by decide +kernel)]; exact ⟨rfl, rfl⟩))
    (fun os started H enc _ => lifted os started H enc)

theorem proved : Rows.FnIsTokenIsRFCTcharRunSaid :=
  over
end Go.Proofs.Qxb6605449a.fnIsTokenIsRFCTcharRun
