/-
  The library's callees at one-byte patterns, by contracts of our own.
-/
import Derived.Test.Qxb6603723aFmtProg
import Derived.Test.Qxb6603723aFmtBytes
import Derived.WalkKit
import Derived.Lib.Bytealg
import Derived.Deep.Draws
namespace Go.Proofs.Qxb6603723aFmt
open Go.RowKit

theorem indexByte25 (s : ByteArray) (c : Int) (w : World) :
    Calls Tryf.prog 25 #[.string s, .int .u8 c] w fun e w' => e = .returned (.int .i64 (Lib.indexByte s.data.toList c.toNat.toUInt8)) ∧ w' = w := by
  go_enter Tryf.func25, Tryf.ntmps25
  go_wp2
  rw [run_callFunc_extern Tryf.func28 (by kernel_rfl) (by kernel_rfl) (by kernel_rfl) (e := Extern.BytealgIndexByte.indexByte) (by kernel_rfl), Lib.run_indexByteString]
  simp only [Result.andThen]
  rw [Oper.upon_value]
  go_wp2
  go_ret
  exact ⟨rfl, rfl⟩

theorem indexByte19 (s : ByteArray) (c : Int) (w : World) :
    Calls Tryf.prog 19 #[.string s, .int .u8 c] w fun e w' => e = .returned (.int .i64 (Lib.indexByte s.data.toList c.toNat.toUInt8)) ∧ w' = w := by
  go_enter Tryf.func19, Tryf.ntmps19
  go_wp2_with (go_at_call 25; refine (indexByte25 _ _ _).mono ?_; rintro e w' ⟨rfl, rfl⟩)
  go_ret
  exact ⟨rfl, rfl⟩

set_option maxRecDepth 100000 in
set_option maxHeartbeats 1000000 in
theorem index61 (s : ByteArray) (w : World) :
    Calls Tryf.prog 26 #[.string s, .string ⟨#[61]⟩] w fun e w' => e = .returned (.int .i64 (Lib.indexByte s.data.toList 61)) ∧ w' = w := by
  cases hq : (([61] : List UInt8) == s.toList)
  · go_enter Tryf.func26, Tryf.ntmps26
    go_wp2_with (go_at_call 25; refine (indexByte25 _ _ _).mono ?_; rintro e w' ⟨rfl, rfl⟩)
    go_ret
    exact ⟨rfl, rfl⟩
  · obtain rfl : s = ⟨#[61]⟩ := by
      rw [← B_of s, ← ByteArray.toList_eq, ← beq_iff_eq.1 hq]; rfl
    clear hq
    go_enter Tryf.func26, Tryf.ntmps26
    go_wp2
    go_ret
    exact ⟨rfl, rfl⟩

set_option maxRecDepth 100000 in
set_option maxHeartbeats 1000000 in
theorem index44 (s : ByteArray) (w : World) :
    Calls Tryf.prog 26 #[.string s, .string ⟨#[44]⟩] w fun e w' => e = .returned (.int .i64 (Lib.indexByte s.data.toList 44)) ∧ w' = w := by
  cases hq : (([44] : List UInt8) == s.toList)
  · go_enter Tryf.func26, Tryf.ntmps26
    go_wp2_with (go_at_call 25; refine (indexByte25 _ _ _).mono ?_; rintro e w' ⟨rfl, rfl⟩)
    go_ret
    exact ⟨rfl, rfl⟩
  · obtain rfl : s = ⟨#[44]⟩ := by
      rw [← B_of s, ← ByteArray.toList_eq, ← beq_iff_eq.1 hq]; rfl
    clear hq
    go_enter Tryf.func26, Tryf.ntmps26
    go_wp2
    go_ret
    exact ⟨rfl, rfl⟩

theorem sindex44 (s : ByteArray) (w : World) :
    Calls Tryf.prog 21 #[.string s, .string ⟨#[44]⟩] w fun e w' => e = .returned (.int .i64 (Lib.indexByte s.data.toList 44)) ∧ w' = w := by
  go_enter Tryf.func21, Tryf.ntmps21
  go_wp2_with (go_at_call 26; refine (index44 _ _).mono ?_; rintro e w' ⟨rfl, rfl⟩)
  go_ret
  exact ⟨rfl, rfl⟩

theorem contains_hit (s : ByteArray) (k r : List UInt8) (h : s.data.toList = k ++ 44 :: r) (hk : 44 ∉ k) (w : World) :
    Calls Tryf.prog 16 #[.string s, .string ⟨#[44]⟩] w fun e w' => e = .returned (.bool true) ∧ w' = w := by
  have hix := idx_some k 44 r hk
  rw [← h] at hix
  have H : Hid (Lib.indexByte s.data.toList 44 = (k.length : Int)) := hix
  clear hix h
  go_enter Tryf.func16, Tryf.ntmps16
  go_wp2_with (go_at_call 21; refine (sindex44 _ _).mono ?_; rintro e w' ⟨rfl, rfl⟩; rw [H.out])
  go_ret
  exact ⟨by simp, rfl⟩

theorem contains_miss (s : ByteArray) (h : 44 ∉ s.data.toList) (w : World) :
    Calls Tryf.prog 16 #[.string s, .string ⟨#[44]⟩] w fun e w' => e = .returned (.bool false) ∧ w' = w := by
  have hix := idx_none _ _ h
  have H : Hid (Lib.indexByte s.data.toList 44 = -1) := hix
  clear hix h
  go_enter Tryf.func16, Tryf.ntmps16
  go_wp2_with (go_at_call 21; refine (sindex44 _ _).mono ?_; rintro e w' ⟨rfl, rfl⟩; rw [H.out])
  go_ret
  exact ⟨by simp, rfl⟩

theorem ret_ssb {a a' b b' : ByteArray} {c : Bool} (h1 : a = a') (h2 : b = b') : Ending.returned (.tuple #[.string a, .string b, .bool c]) = .returned (.tuple #[.string a', .string b', .bool c]) := by rw [h1, h2]
theorem ret_sb {a a' : ByteArray} {c : Bool} (h1 : a = a') : Ending.returned (.tuple #[.string a, .bool c]) = .returned (.tuple #[.string a', .bool c]) := by rw [h1]

set_option maxHeartbeats 1000000 in
theorem cut20_miss (s : ByteArray) (h : 61 ∉ s.data.toList) (w : World) :
    Calls Tryf.prog 20 #[.string s, .string ⟨#[61]⟩] w fun e w' => e = .returned (.tuple #[.string s, .string ⟨#[]⟩, .bool false]) ∧ ∃ n, w' = w.drewN n := by
  have H : Hid (Lib.indexByte s.data.toList 61 = -1) := idx_none _ _ h
  clear h
  go_enter Tryf.func20, Tryf.ntmps20
  go_wp2_with (go_at_call 26; refine (index61 _ _).mono ?_; rintro e w' ⟨rfl, rfl⟩; rw [H.out])
  go_ret3
  exact ⟨rfl, 0, rfl⟩

set_option maxHeartbeats 1000000 in
theorem cut20_hit (s : ByteArray) (k r : List UInt8) (h : s.data.toList = k ++ 61 :: r) (hk : 61 ∉ k) (hs : s.size ≤ 1048576) (w : World) :
    Calls Tryf.prog 20 #[.string s, .string ⟨#[61]⟩] w fun e w' => e = .returned (.tuple #[.string (B k), .string (B r), .bool true]) ∧ ∃ n, w' = w.drewN n := by
  have H : Hid (Lib.indexByte s.data.toList 61 = (k.length : Int)) := by have := idx_some k 61 r hk; rw [← h] at this; exact this
  have hl := size_list s
  rw [h] at hl; simp at hl
  obtain ⟨i, hi⟩ : ∃ i, i = k.length := ⟨_, rfl⟩
  have H1 : Hid (Lib.indexByte s.data.toList 61 = (i : Int)) := by rw [hi]; exact H
  have HI : Hid (i = k.length) := hi
  have c1 : (0 : Int) ≤ ↑i := by omega
  have c2 : (↑i : Int) + 1 ≤ ↑s.size := by omega
  have c3 : i ≤ s.size := by omega
  have c4 : (↑i : Int) ≤ ↑s.size := by omega
  have c5 : (0 : Int) ≤ ↑i + 1 := by omega
  have HS : Hid (s.data.toList = k ++ 61 :: r) := h
  clear h hi hl H
  go_enter Tryf.func20, Tryf.ntmps20
  go_wp2_with (go_at_call 26; refine (index61 _ _).mono ?_; rintro e w' ⟨rfl, rfl⟩; rw [H1.out])
  go_region
  all_goals (try go_wp2)
  all_goals (go_ret3; refine ⟨?_, 1, rfl⟩)
  all_goals exact ret_ssb (by rw [ext_take, HS.out, HI.out]; simp) (by rw [ext_drop, HS.out, HI.out]; simp)

theorem cut_miss (s : ByteArray) (h : 61 ∉ s.data.toList) (w : World) :
    Calls Tryf.prog 15 #[.string s, .string ⟨#[61]⟩] w fun e w' => e = .returned (.tuple #[.string s, .string ⟨#[]⟩, .bool false]) ∧ ∃ n, w' = w.drewN n := by
  go_enter Tryf.func15, Tryf.ntmps15
  go_wp2_with (go_at_call 20; refine (cut20_miss _ h _).mono ?_; rintro e w' ⟨rfl, n, rfl⟩)
  go_ret3
  exact ⟨rfl, _, rfl⟩

theorem cut_hit (s : ByteArray) (k r : List UInt8) (h : s.data.toList = k ++ 61 :: r) (hk : 61 ∉ k) (hs : s.size ≤ 1048576) (w : World) :
    Calls Tryf.prog 15 #[.string s, .string ⟨#[61]⟩] w fun e w' => e = .returned (.tuple #[.string (B k), .string (B r), .bool true]) ∧ ∃ n, w' = w.drewN n := by
  have HS : Hid (s.data.toList = k ++ 61 :: r) := h
  clear h
  go_enter Tryf.func15, Tryf.ntmps15
  go_wp2_with (go_at_call 20; refine (cut20_hit _ k r HS.out hk hs _).mono ?_; rintro e w' ⟨rfl, n, rfl⟩)
  go_ret3
  exact ⟨rfl, _, rfl⟩

theorem ext_head (s : ByteArray) (c : UInt8) : ((s.extract 0 1).toList == [c]) = true ↔ ∃ t, s.data.toList = c :: t := by
  rw [ByteArray.toList_eq, ext_take, B_list]
  cases h : s.data.toList with
  | nil => simp
  | cons a l => simp

set_option maxHeartbeats 1000000 in
theorem cutPrefix_miss (c : UInt8) (s : ByteArray) (h : ∀ t, s.data.toList ≠ c :: t) (w : World) :
    Calls Tryf.prog 18 #[.string s, .string ⟨#[c]⟩] w fun e w' => e = .returned (.tuple #[.string s, .bool false]) ∧ w' = w := by
  have h2 : ((s.extract 0 1).toList == [c]) = false := by
    cases h2 : ((s.extract 0 1).toList == [c])
    · rfl
    · obtain ⟨t, ht⟩ := (ext_head s c).1 h2
      exact absurd ht (h t)
  clear h
  by_cases h0 : 1 ≤ s.size
  · go_enter Tryf.func18, Tryf.ntmps18
    go_wp2
    go_ret2
    exact ⟨rfl, rfl⟩
  · go_enter Tryf.func18, Tryf.ntmps18
    go_wp2
    go_ret2
    exact ⟨rfl, rfl⟩

set_option maxHeartbeats 1000000 in
theorem cutPrefix_hit (c : UInt8) (s : ByteArray) (t : List UInt8) (h : s.data.toList = c :: t) (hs : s.size ≤ 1048576) (w : World) :
    Calls Tryf.prog 18 #[.string s, .string ⟨#[c]⟩] w fun e w' => e = .returned (.tuple #[.string (B t), .bool true]) ∧ w' = w := by
  have h2 : ((s.extract 0 1).toList == [c]) = true := (ext_head s c).2 ⟨t, h⟩
  have h0 : 1 ≤ s.size := by
    have := size_list s
    rw [h] at this; simp at this; omega
  have HS : Hid (s.data.toList = c :: t) := h
  clear h
  go_enter Tryf.func18, Tryf.ntmps18
  go_wp2
  go_ret2
  exact ⟨ret_sb (by rw [ext_drop, HS.out]; simp), rfl⟩

end Go.Proofs.Qxb6603723aFmt
