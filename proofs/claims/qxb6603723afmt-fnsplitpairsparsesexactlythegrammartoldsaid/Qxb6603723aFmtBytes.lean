/-
  Plain facts on lists of bytes: no program.
-/
import Derived.Lib.Bytealg
namespace Go.Proofs.Qxb6603723aFmt

def B (l : List UInt8) : ByteArray := ⟨l.toArray⟩
theorem B_size (l : List UInt8) : (B l).size = l.length := by simp [B, ByteArray.size]
theorem B_list (l : List UInt8) : (B l).data.toList = l := by simp [B]
theorem B_of (s : ByteArray) : B s.data.toList = s := by cases s; simp [B]
theorem B_inj {a b : List UInt8} (h : B a = B b) : a = b := by
  have := congrArg (fun x : ByteArray => x.data.toList) h
  simpa [B] using this

theorem idx_none : ∀ (l : List UInt8) (c : UInt8), c ∉ l → Lib.indexByte l c = -1
  | [], _, _ => rfl
  | b :: l, c, h => by
    have h1 : b ≠ c := fun e => h (by simp [e])
    have h2 : c ∉ l := fun e => h (by simp [e])
    have h3 : (b == c) = false := by simp [h1]
    simp [Lib.indexByte, h3, idx_none l c h2]

theorem idx_some : ∀ (k : List UInt8) (c : UInt8) (r : List UInt8), c ∉ k → Lib.indexByte (k ++ c :: r) c = (k.length : Int)
  | [], c, r, _ => by simp [Lib.indexByte]
  | b :: k, c, r, h => by
    have h1 : b ≠ c := fun e => h (by simp [e])
    have h2 : c ∉ k := fun e => h (by simp [e])
    have h3 : (b == c) = false := by simp [h1]
    have ih := idx_some k c r h2
    simp only [List.cons_append, Lib.indexByte, h3, ih]
    rw [if_neg (by simp), if_neg (by simp)]
    simp

theorem split_at (l : List UInt8) (c : UInt8) : c ∉ l ∨ ∃ k r, l = k ++ c :: r ∧ c ∉ k := by
  induction l with
  | nil => exact Or.inl (by simp)
  | cons b l ih =>
    by_cases hb : b = c
    · exact Or.inr ⟨[], l, by simp [hb], by simp⟩
    · rcases ih with h | ⟨k, r, rfl, hk⟩
      · exact Or.inl (by simp [h]; exact fun e => hb e.symm)
      · exact Or.inr ⟨b :: k, r, rfl, by simp [hk]; exact fun e => hb e.symm⟩

theorem ext_take (s : ByteArray) (n : Nat) : s.extract 0 n = B (s.data.toList.take n) := by
  apply ByteArray.ext
  apply Array.toList_inj.1
  rw [ByteArray.data_extract, Array.toList_extract]
  simp [B]
theorem ext_drop (s : ByteArray) (n : Nat) : s.extract n s.size = B (s.data.toList.drop n) := by
  apply ByteArray.ext
  apply Array.toList_inj.1
  rw [ByteArray.data_extract, Array.toList_extract]
  show (s.data.toList.drop n).take (s.data.size - n) = s.data.toList.drop n
  exact List.take_of_length_le (by simp)
theorem size_list (s : ByteArray) : s.data.toList.length = s.size := Array.length_toList

end Go.Proofs.Qxb6603723aFmt
