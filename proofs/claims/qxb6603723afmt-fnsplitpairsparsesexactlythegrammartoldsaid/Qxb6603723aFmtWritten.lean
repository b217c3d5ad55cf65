/-
  The plain law of reading back: what is written splits into what was written. No program.
-/
import Derived.Test.Qxb6603723aFmtPlain
namespace Go.Proofs.Qxb6603723aFmt

abbrev Tr : Type := Bs × Bs × Bool
def piece (p : Tr) : Bs := p.1 ++ 61 :: (if p.2.2 then p.2.1 else 34 :: (p.2.1 ++ [34]))
def written : List Tr → Bs
  | [] => []
  | p :: L => piece p ++ (if L = [] then [] else 44 :: written L)

def okT (p : Tr) : Prop := 61 ∉ p.1 ∧ 44 ∉ p.1 ∧ (if p.2.2 then 44 ∉ p.2.1 ∧ p.2.1.head? ≠ some 34 else 34 ∉ p.2.1)

theorem piece_ne (p : Tr) : piece p ≠ [] := by unfold piece; simp
theorem written_ne (p : Tr) (L : List Tr) : written (p :: L) ≠ [] := by unfold written; simp [piece_ne]

theorem written_two (p q : Tr) (L : List Tr) : written (p :: q :: L) = piece p ++ 44 :: written (q :: L) := by
  conv => lhs; unfold written
  rw [if_neg (by simp)]

theorem written_snoc (p : Tr) : ∀ (L : List Tr), written (L ++ [p]) = written L ++ (if L = [] then [] else [44]) ++ piece p
  | [] => by simp [written]
  | q :: L => by
    have ih := written_snoc p L
    rw [List.cons_append]
    conv => lhs; unfold written
    rw [if_neg (by simp), ih]
    conv => rhs; unfold written
    cases L with
    | nil => simp [written]
    | cons r L => simp

theorem head_no {v u : Bs} (h : v.head? ≠ some 34) : ∀ q, v ++ 44 :: u ≠ 34 :: q := by
  intro q e
  cases v with
  | nil => simp at e
  | cons a v => simp at e; exact h (by simp [e.1])
theorem head_no' {v : Bs} (h : v.head? ≠ some 34) : ∀ q, v ≠ 34 :: q := by
  rintro q rfl; simp at h

theorem parse_last (p : Tr) (h : okT p) : parse1 (piece p) = some (p.1, p.2.1, []) := by
  obtain ⟨h1, h2, h3⟩ := h
  unfold piece
  by_cases hb : p.2.2
  · rw [if_pos hb] at h3 ⊢
    exact p_bend h1 h2 (head_no' h3.2) h3.1
  · rw [if_neg hb] at h3 ⊢
    exact p_qend h1 h2 h3
theorem parse_next (p : Tr) (u : Bs) (hu : u ≠ []) (h : okT p) : parse1 (piece p ++ 44 :: u) = some (p.1, p.2.1, u) := by
  obtain ⟨h1, h2, h3⟩ := h
  unfold piece
  by_cases hb : p.2.2
  · rw [if_pos hb] at h3 ⊢
    rw [List.append_assoc, List.cons_append]
    exact p_bnext h1 h2 (head_no h3.2) h3.1 hu
  · rw [if_neg hb] at h3 ⊢
    rw [List.append_assoc, List.cons_append, List.cons_append, List.append_assoc]
    exact p_qnext h1 h2 h3 hu

theorem split_written : ∀ (L : List Tr) (f : Nat) (acc : List Pr), (∀ p ∈ L, okT p) → (written L).length ≤ f → splitL f (written L) acc = some (acc ++ L.map fun p => (p.1, p.2.1))
  | [], f, acc, _, _ => by simp [written, splitL_nil]
  | p :: L, f, acc, ho, hf => by
    have hp := ho p (by simp)
    have hne := written_ne p L
    cases L with
    | nil =>
      have e : parse1 (written [p]) = some (p.1, p.2.1, []) := by simpa [written] using parse_last p hp
      rw [splitL_some hne hf e, splitL_nil]
      simp
    | cons q L =>
      have hw := written_two p q L
      have e : parse1 (written (p :: q :: L)) = some (p.1, p.2.1, written (q :: L)) := by rw [hw]; exact parse_next p _ (written_ne q L) hp
      have hlen : (written (q :: L)).length ≤ f - 1 := by
        rw [hw] at hf; simp at hf
        have := List.length_pos_iff.2 (piece_ne p)
        omega
      rw [splitL_some hne hf e, split_written (q :: L) (f - 1) _ (fun r hr => ho r (by simp [hr])) hlen]
      simp

def sumTo (g : Nat → Nat) : Nat → Nat
  | 0 => 0
  | k + 1 => sumTo g k + g k
theorem sumTo_mono (g : Nat → Nat) {k n : Nat} (h : k ≤ n) : sumTo g k ≤ sumTo g n := by
  induction n with
  | zero => simp at h; subst h; exact Nat.le_refl _
  | succ n ih =>
    by_cases e : k = n + 1
    · subst e; exact Nat.le_refl _
    · have := ih (by omega)
      show _ ≤ sumTo g n + g n
      omega

def W (f : Nat → Tr) (k : Nat) : Bs := written ((List.range k).map f)
theorem W_zero (f : Nat → Tr) : W f 0 = [] := rfl
theorem W_succ0 (f : Nat → Tr) : W f 1 = piece (f 0) := by simp [W, written]
theorem W_succ (f : Nat → Tr) (k : Nat) (hk : 0 < k) : W f (k + 1) = W f k ++ 44 :: piece (f k) := by
  unfold W
  rw [List.range_succ, List.map_append, List.map_singleton, written_snoc, if_neg (by simp; omega)]
  simp
theorem piece_len (p : Tr) : (piece p).length ≤ p.1.length + p.2.1.length + 3 := by
  unfold piece
  by_cases h : p.2.2 <;> simp [h] <;> omega
theorem W_len (f : Nat → Tr) : ∀ (k : Nat), (W f k).length ≤ 4 * k + sumTo (fun j => (f j).1.length) k + sumTo (fun j => (f j).2.1.length) k
  | 0 => by simp [W_zero]
  | k + 1 => by
    have ih := W_len f k
    have hp := piece_len (f k)
    have e1 : sumTo (fun j => (f j).1.length) (k + 1) = sumTo (fun j => (f j).1.length) k + (f k).1.length := rfl
    have e2 : sumTo (fun j => (f j).2.1.length) (k + 1) = sumTo (fun j => (f j).2.1.length) k + (f k).2.1.length := rfl
    by_cases h : k = 0
    · subst h; rw [W_succ0, e1, e2]; omega
    · rw [W_succ f k (by omega), e1, e2]; simp; omega
theorem split_W (f : Nat → Tr) (n : Nat) (ho : ∀ j, j < n → okT (f j)) : splitL (W f n).length (W f n) [] = some ((List.range n).map fun j => ((f j).1, (f j).2.1)) := by
  unfold W
  rw [split_written _ _ [] (by intro p hp; simp at hp; obtain ⟨j, hj, rfl⟩ := hp; exact ho j hj) (Nat.le_refl _)]
  simp

end Go.Proofs.Qxb6603723aFmt
