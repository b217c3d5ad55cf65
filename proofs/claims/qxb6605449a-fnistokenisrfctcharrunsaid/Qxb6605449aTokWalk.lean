/-
  The walks: zzTchar, strings.IndexByte, isToken, the law itself.
-/
import Derived.Test.Qxb6605449aProg
import Derived.Test.Qxb6605449aTok
import Derived.WalkKit
import Derived.Lib.ConvBytes
namespace Go.Proofs.Qxb6605449a
open Go.RowKit

theorem ret_bool {a b : Bool} (h : a = b) : Ending.returned (.bool a) = .returned (.bool b) := by rw [h]
theorem size_list (s : ByteArray) : s.data.toList.length = s.size := Array.length_toList
theorem take_snoc (s : ByteArray) (k : Nat) (h : k < s.size) : s.data.toList.take (k + 1) = s.data.toList.take k ++ [s[k]] := by
  rw [List.take_succ_eq_append_getElem (by simpa using h)]; rfl

set_option maxHeartbeats 2000000 in
theorem tchar_any (c : Int) (w : World) : Calls Try.prog 5 #[.int .u8 c] w fun e w' => e = .returned (.bool (tchI c)) ∧ w' = w := by
  go_enter Try.func5, Try.ntmps5
  go_wp2
  all_goals
    go_ret
    refine ⟨ret_bool ?_, rfl⟩
    unfold tchI
    symm
    try simp only [beq_iff_eq, beq_eq_false_iff_ne] at *
    first | (rw [decide_eq_false_iff_not]; omega) | (rw [decide_eq_true_eq]; omega)

theorem indexByte9 (s : ByteArray) (c : Int) (w : World) :
    Calls Try.prog 9 #[.string s, .int .u8 c] w fun e w' => e = .returned (.int .i64 (Lib.indexByte s.data.toList c.toNat.toUInt8)) ∧ w' = w := by
  go_enter Try.func9, Try.ntmps9
  go_wp2
  rw [run_callFunc_extern Try.func10 (by kernel_rfl) (by kernel_rfl) (by kernel_rfl) (e := Extern.BytealgIndexByte.indexByte) (by kernel_rfl), Lib.run_indexByteString]
  simp only [Result.andThen]
  rw [Oper.upon_value]
  go_wp2
  go_ret
  exact ⟨rfl, rfl⟩

theorem indexByte8 (s : ByteArray) (c : Int) (w : World) :
    Calls Try.prog 8 #[.string s, .int .u8 c] w fun e w' => e = .returned (.int .i64 (Lib.indexByte s.data.toList c.toNat.toUInt8)) ∧ w' = w := by
  go_enter Try.func8, Try.ntmps8
  go_wp2_with (go_at_call 9; refine (indexByte9 _ _ _).mono ?_; rintro e w' ⟨rfl, rfl⟩)
  go_ret
  exact ⟨rfl, rfl⟩

def ixm (c : UInt8) : Int := Lib.indexByte marks c
theorem indexMarks (c : UInt8) (w : World) :
    Calls Try.prog 8 #[.string ⟨#[33, 35, 36, 37, 38, 39, 42, 43, 45, 46, 94, 95, 96, 124, 126]⟩, .int .u8 c.toNat] w fun e w' => e = .returned (.int .i64 (ixm c)) ∧ w' = w := by
  have := indexByte8 ⟨#[33, 35, 36, 37, 38, 39, 42, 43, 45, 46, 94, 95, 96, 124, 126]⟩ c.toNat w
  rw [show ((c.toNat : Int)).toNat.toUInt8 = c from by simp] at this
  exact this
theorem ok_low {c : UInt8} (h : (97 ≤ (c.toNat : Int) ∧ (c.toNat : Int) ≤ 122) ∨ (65 ≤ (c.toNat : Int) ∧ (c.toNat : Int) ≤ 90) ∨ (48 ≤ (c.toNat : Int) ∧ (c.toNat : Int) ≤ 57)) : okU c = true := by
  unfold okU okN
  simp only [Bool.or_eq_true, Bool.and_eq_true, decide_eq_true_eq]
  omega
theorem ok_else {c : UInt8} (h : ¬ ((97 ≤ (c.toNat : Int) ∧ (c.toNat : Int) ≤ 122) ∨ (65 ≤ (c.toNat : Int) ∧ (c.toNat : Int) ≤ 90) ∨ (48 ≤ (c.toNat : Int) ∧ (c.toNat : Int) ≤ 57))) : okU c = decide (0 ≤ ixm c) := by
  unfold okU okN ixm
  have e : c.toNat.toUInt8 = c := by simp
  rw [e]
  have h1 : (decide (97 ≤ c.toNat) && decide (c.toNat ≤ 122)) = false := by simp; omega
  have h2 : (decide (65 ≤ c.toNat) && decide (c.toNat ≤ 90)) = false := by simp; omega
  have h3 : (decide (48 ≤ c.toNat) && decide (c.toNat ≤ 57)) = false := by simp; omega
  rw [h1, h2, h3]; simp

theorem below_bytes (w : World) (e : TypeId) (s : ByteArray) : Below w.heap.size w (Lib.bytesWorld w e s) :=
  ⟨rfl, rfl, rfl, by rw [Lib.bytesWorld_size]; omega, fun k hk => Lib.bytesWorld_at_old w e s k hk⟩
theorem getD_at (s : ByteArray) (k : Nat) (h : k < s.size) : s.data.toList.getD k 0 = s[k] := by
  rw [List.getD_eq_getElem?_getD, List.getElem?_eq_getElem (by rw [size_list]; exact h)]; rfl

theorem tok_no {s : ByteArray} {k : Nat} (h : k < s.size) (hn : okU s[k] = false) : isTok s.data.toList = false := by
  unfold isTok
  have : s.data.toList.all okU = false := by
    rw [List.all_eq_false]
    refine ⟨s[k], ?_, by simp [hn]⟩
    have : s[k] = s.data.toList[k]'(by rw [size_list]; exact h) := rfl
    rw [this]
    exact List.getElem_mem _
  rw [this]; simp
theorem tok_all {s : ByteArray} (h0 : s.data.toList ≠ []) (h : (s.data.toList.take s.size).all okU = true) : isTok s.data.toList = true := by
  rw [List.take_of_length_le (by rw [size_list]; omega)] at h
  unfold isTok
  rw [h, List.isEmpty_eq_false_iff.2 h0]; rfl

set_option maxRecDepth 100000 in
set_option maxHeartbeats 4000000 in
theorem isToken_any (s : ByteArray) (hs : s.size ≤ 1048576) (w : World) :
    Calls Try.prog 7 #[.string s] w fun e w' => e = .returned (.bool (isTok s.data.toList)) ∧ Below w.heap.size w w' := by
  by_cases h0 : s.data.toList = []
  · have hse : s.toList.isEmpty = true := by rw [ByteArray.toList_eq, h0]; rfl
    have HR : Hid (isTok s.data.toList = false) := by rw [h0]; rfl
    clear h0
    go_enter Try.func7, Try.ntmps7
    go_wp2
    go_ret
    exact ⟨ret_bool HR.out.symm, Below.refl _ _⟩
  have hse : s.toList.isEmpty = false := by rw [ByteArray.toList_eq]; exact List.isEmpty_eq_false_iff.2 h0
  have HE : Hid (s.data.toList ≠ []) := h0
  have hcv := Lib.run_convert_string_bytes (P := Try.prog) w 9 24 5 s Try.underlying9 Try.underlying24 Try.underlying5
  have HB := below_bytes w 5 s
  have hcell := fun k (hk : k < s.size) => Lib.bytesWorld_cell w 5 s k hk
  obtain ⟨W1, hW1⟩ : ∃ W1, W1 = Lib.bytesWorld w 5 s := ⟨_, rfl⟩
  obtain ⟨cap, hcap⟩ : ∃ c, c = grownCap w s.size 0 5 := ⟨_, rfl⟩
  obtain ⟨g, hg⟩ : ∃ g, g = w.heap.size := ⟨_, rfl⟩
  obtain ⟨R, hR⟩ : ∃ R, R = isTok s.data.toList := ⟨_, rfl⟩
  rw [← hR, ← hg]
  rw [← hW1, ← hcap, ← hg] at hcv
  rw [← hW1, ← hg] at HB hcell
  have HC : Hid (∀ k, k < s.size → W1.cell? ⟨g, k, none⟩ = some (.int .u8 (s.data.toList.getD k 0).toNat)) := hcell
  have HR : Hid (R = isTok s.data.toList) := hR
  clear hR hcell hW1 hcap hg h0
  go_enter Try.func7, Try.ntmps7
  go_wp2
  go_loop [11] (fun i => ∃ k : Nat, k ≤ s.size ∧ i = .int .i64 k ∧ Hid ((s.data.toList.take k).all okU = true)) (fun i => s.size - (intOf i).toNat)
  case atStart => exact ⟨0, Nat.zero_le _, rfl, rfl⟩
  case round =>
    obtain ⟨k, hk, rfl, hall⟩ := hrel
    by_cases hlt : k < s.size
    · have c1 := HC.out k hlt
      rw [getD_at s k hlt] at c1
      have HT : Hid (s.data.toList.take (k + 1) = s.data.toList.take k ++ [s[k]]) := take_snoc s k hlt
      obtain ⟨c, hc⟩ : ∃ c, c = s[k] := ⟨_, rfl⟩
      rw [← hc] at c1
      have HCE : Hid (c = s[k]) := hc
      rw [← hc] at HT
      clear hc
      have n0 : (0 : Int) ≤ c.toNat := by omega
      have n1 : (c.toNat : Int) ≤ 255 := by have := c.toNat_lt; omega
      rcases (show (97 ≤ (c.toNat : Int) ∧ (c.toNat : Int) ≤ 122) ∨ (65 ≤ (c.toNat : Int) ∧ (c.toNat : Int) ≤ 90) ∨ (48 ≤ (c.toNat : Int) ∧ (c.toNat : Int) ≤ 57) ∨ ((c.toNat : Int) < 48) ∨ (57 < (c.toNat : Int) ∧ (c.toNat : Int) < 65) ∨ (90 < (c.toNat : Int) ∧ (c.toNat : Int) < 97) ∨ (122 < (c.toNat : Int)) from by omega) with ⟨a1, a2⟩ | ⟨a1, a2⟩ | ⟨a1, a2⟩ | a1 | ⟨a1, a2⟩ | ⟨a1, a2⟩ | a1
      · skip
        have HOK : Hid (okU c = true) := ok_low (by omega)
        go_wp2
        go_round
        case rel => exact ⟨k + 1, by omega, by go_num, by show List.all _ _ = true; rw [HT.out, List.all_append, hall.out]; simp [HOK.out]⟩
        case measure => simp [intOf]; omega
      · skip
        have HOK : Hid (okU c = true) := ok_low (by omega)
        go_wp2
        go_round
        case rel => exact ⟨k + 1, by omega, by go_num, by show List.all _ _ = true; rw [HT.out, List.all_append, hall.out]; simp [HOK.out]⟩
        case measure => simp [intOf]; omega
      · skip
        have HOK : Hid (okU c = true) := ok_low (by omega)
        go_wp2
        go_round
        case rel => exact ⟨k + 1, by omega, by go_num, by show List.all _ _ = true; rw [HT.out, List.all_append, hall.out]; simp [HOK.out]⟩
        case measure => simp [intOf]; omega
      · by_cases hx : 0 ≤ ixm c
        · skip
          have HOK : Hid (okU c = true) := by show okU c = true; rw [ok_else (by omega)]; simp [hx]
          go_wp2_with (go_at_call 8; refine (indexMarks c _).mono ?_; rintro e w' ⟨rfl, rfl⟩)
          go_round
          case rel => exact ⟨k + 1, by omega, by go_num, by show List.all _ _ = true; rw [HT.out, List.all_append, hall.out]; simp [HOK.out]⟩
          case measure => simp [intOf]; omega
        · skip
          have HOK : Hid (R = false) := by rw [HR.out]; exact tok_no hlt (by rw [← HCE.out, ok_else (by omega)]; simp; omega)
          go_wp2_with (go_at_call 8; refine (indexMarks c _).mono ?_; rintro e w' ⟨rfl, rfl⟩)
          all_goals first | (exfalso; rename_i h; simp at h; omega) | (go_ret; exact ⟨ret_bool HOK.out.symm, HB⟩)
      · by_cases hx : 0 ≤ ixm c
        · skip
          have HOK : Hid (okU c = true) := by show okU c = true; rw [ok_else (by omega)]; simp [hx]
          go_wp2_with (go_at_call 8; refine (indexMarks c _).mono ?_; rintro e w' ⟨rfl, rfl⟩)
          go_round
          case rel => exact ⟨k + 1, by omega, by go_num, by show List.all _ _ = true; rw [HT.out, List.all_append, hall.out]; simp [HOK.out]⟩
          case measure => simp [intOf]; omega
        · skip
          have HOK : Hid (R = false) := by rw [HR.out]; exact tok_no hlt (by rw [← HCE.out, ok_else (by omega)]; simp; omega)
          go_wp2_with (go_at_call 8; refine (indexMarks c _).mono ?_; rintro e w' ⟨rfl, rfl⟩)
          all_goals first | (exfalso; rename_i h; simp at h; omega) | (go_ret; exact ⟨ret_bool HOK.out.symm, HB⟩)
      · by_cases hx : 0 ≤ ixm c
        · skip
          have HOK : Hid (okU c = true) := by show okU c = true; rw [ok_else (by omega)]; simp [hx]
          go_wp2_with (go_at_call 8; refine (indexMarks c _).mono ?_; rintro e w' ⟨rfl, rfl⟩)
          go_round
          case rel => exact ⟨k + 1, by omega, by go_num, by show List.all _ _ = true; rw [HT.out, List.all_append, hall.out]; simp [HOK.out]⟩
          case measure => simp [intOf]; omega
        · skip
          have HOK : Hid (R = false) := by rw [HR.out]; exact tok_no hlt (by rw [← HCE.out, ok_else (by omega)]; simp; omega)
          go_wp2_with (go_at_call 8; refine (indexMarks c _).mono ?_; rintro e w' ⟨rfl, rfl⟩)
          all_goals first | (exfalso; rename_i h; simp at h; omega) | (go_ret; exact ⟨ret_bool HOK.out.symm, HB⟩)
      · by_cases hx : 0 ≤ ixm c
        · skip
          have HOK : Hid (okU c = true) := by show okU c = true; rw [ok_else (by omega)]; simp [hx]
          go_wp2_with (go_at_call 8; refine (indexMarks c _).mono ?_; rintro e w' ⟨rfl, rfl⟩)
          go_round
          case rel => exact ⟨k + 1, by omega, by go_num, by show List.all _ _ = true; rw [HT.out, List.all_append, hall.out]; simp [HOK.out]⟩
          case measure => simp [intOf]; omega
        · skip
          have HOK : Hid (R = false) := by rw [HR.out]; exact tok_no hlt (by rw [← HCE.out, ok_else (by omega)]; simp; omega)
          go_wp2_with (go_at_call 8; refine (indexMarks c _).mono ?_; rintro e w' ⟨rfl, rfl⟩)
          all_goals first | (exfalso; rename_i h; simp at h; omega) | (go_ret; exact ⟨ret_bool HOK.out.symm, HB⟩)
    · have HF : Hid (R = true) := by
        rw [HR.out]
        have e : k = s.size := by omega
        exact tok_all HE.out (by rw [← e]; exact hall.out)
      go_wp2
      go_ret
      exact ⟨ret_bool HF.out.symm, HB⟩

end Go.Proofs.Qxb6605449a
