/-
  The plain function that splitPairs computes: no program.
-/
import Derived.Test.Qxb6603723aFmtBytes
namespace Go.Proofs.Qxb6603723aFmt

abbrev Bs : Type := List UInt8
abbrev Pr : Type := Bs × Bs

def parse1 (l : Bs) : Option (Bs × Bs × Bs) :=
  match l.dropWhile (· != 61) with
  | [] => none
  | _ :: r =>
    if 44 ∈ l.takeWhile (· != 61) then none else
    if r.head? = some 34 then
      match r.tail.dropWhile (· != 34) with
      | [] => none
      | _ :: t =>
        if t = [] then some (l.takeWhile (· != 61), r.tail.takeWhile (· != 34), [])
        else if t.head? = some 44 then
          (if t.tail = [] then none else some (l.takeWhile (· != 61), r.tail.takeWhile (· != 34), t.tail))
        else none
    else
      match r.dropWhile (· != 44) with
      | [] => some (l.takeWhile (· != 61), r, [])
      | _ :: u => if u = [] then none else some (l.takeWhile (· != 61), r.takeWhile (· != 44), u)

def splitL : Nat → Bs → List Pr → Option (List Pr)
  | _, [], acc => some acc
  | 0, _ :: _, _ => none
  | f + 1, a :: l, acc =>
    match parse1 (a :: l) with
    | none => none
    | some (k, v, r) => splitL f r (acc ++ [(k, v)])

theorem dw_miss (c : UInt8) : ∀ (l : Bs), c ∉ l → l.dropWhile (· != c) = []
  | [], _ => rfl
  | b :: l, h => by
    have h1 : b ≠ c := fun e => h (by simp [e])
    have h2 : c ∉ l := fun e => h (by simp [e])
    rw [List.dropWhile_cons, if_pos (by simp [h1])]
    exact dw_miss c l h2
theorem dw_hit (c : UInt8) : ∀ (k r : Bs), c ∉ k → (k ++ c :: r).dropWhile (· != c) = c :: r
  | [], r, _ => by simp
  | b :: k, r, h => by
    have h1 : b ≠ c := fun e => h (by simp [e])
    have h2 : c ∉ k := fun e => h (by simp [e])
    rw [List.cons_append, List.dropWhile_cons, if_pos (by simp [h1])]
    exact dw_hit c k r h2
theorem tw_hit (c : UInt8) : ∀ (k r : Bs), c ∉ k → (k ++ c :: r).takeWhile (· != c) = k
  | [], r, _ => by simp
  | b :: k, r, h => by
    have h1 : b ≠ c := fun e => h (by simp [e])
    have h2 : c ∉ k := fun e => h (by simp [e])
    rw [List.cons_append, List.takeWhile_cons, if_pos (by simp [h1]), tw_hit c k r h2]

theorem p_noeq {l : Bs} (h : 61 ∉ l) : parse1 l = none := by
  unfold parse1; rw [dw_miss 61 l h]
theorem p_comma {k r : Bs} (h : 61 ∉ k) (h2 : 44 ∈ k) : parse1 (k ++ 61 :: r) = none := by
  unfold parse1; rw [dw_hit 61 k r h, tw_hit 61 k r h]; simp [h2]
theorem p_open {k q : Bs} (h : 61 ∉ k) (h2 : 44 ∉ k) (h3 : 34 ∉ q) : parse1 (k ++ 61 :: 34 :: q) = none := by
  unfold parse1; rw [dw_hit 61 k _ h, tw_hit 61 k _ h]; simp [h2, dw_miss 34 q h3]
theorem p_qend {k v : Bs} (h : 61 ∉ k) (h2 : 44 ∉ k) (h3 : 34 ∉ v) : parse1 (k ++ 61 :: 34 :: (v ++ 34 :: [])) = some (k, v, []) := by
  unfold parse1; rw [dw_hit 61 k _ h, tw_hit 61 k _ h]
  simp only [h2, if_false, List.head?_cons, List.tail_cons, dw_hit 34 v [] h3, tw_hit 34 v [] h3, if_true]
theorem p_qnext {k v u : Bs} (h : 61 ∉ k) (h2 : 44 ∉ k) (h3 : 34 ∉ v) (hu : u ≠ []) : parse1 (k ++ 61 :: 34 :: (v ++ 34 :: 44 :: u)) = some (k, v, u) := by
  unfold parse1; rw [dw_hit 61 k _ h, tw_hit 61 k _ h]
  simp only [h2, if_false, List.head?_cons, List.tail_cons, dw_hit 34 v _ h3, tw_hit 34 v _ h3, if_true]
  simp [hu]
theorem p_qcomma {k v : Bs} (h : 61 ∉ k) (h2 : 44 ∉ k) (h3 : 34 ∉ v) : parse1 (k ++ 61 :: 34 :: (v ++ 34 :: 44 :: [])) = none := by
  unfold parse1; rw [dw_hit 61 k _ h, tw_hit 61 k _ h]
  simp only [h2, if_false, List.head?_cons, List.tail_cons, dw_hit 34 v _ h3, tw_hit 34 v _ h3, if_true]
  simp
theorem p_qjunk {k v u : Bs} {x : UInt8} (h : 61 ∉ k) (h2 : 44 ∉ k) (h3 : 34 ∉ v) (hx : x ≠ 44) : parse1 (k ++ 61 :: 34 :: (v ++ 34 :: x :: u)) = none := by
  unfold parse1; rw [dw_hit 61 k _ h, tw_hit 61 k _ h]
  simp only [h2, if_false, List.head?_cons, List.tail_cons, dw_hit 34 v _ h3, tw_hit 34 v _ h3, if_true]
  simp [hx]
theorem head_ne {r : Bs} (h : ∀ q, r ≠ 34 :: q) : ¬ r.head? = some 34 := by
  cases r with
  | nil => simp
  | cons a r => intro e; simp at e; exact h r (by rw [e])
theorem p_bend {k r : Bs} (h : 61 ∉ k) (h2 : 44 ∉ k) (hr : ∀ q, r ≠ 34 :: q) (h3 : 44 ∉ r) : parse1 (k ++ 61 :: r) = some (k, r, []) := by
  unfold parse1; rw [dw_hit 61 k _ h, tw_hit 61 k _ h]
  simp only [h2, if_false, head_ne hr, dw_miss 44 r h3]
theorem p_bnext {k v u : Bs} (h : 61 ∉ k) (h2 : 44 ∉ k) (hr : ∀ q, v ++ 44 :: u ≠ 34 :: q) (h3 : 44 ∉ v) (hu : u ≠ []) : parse1 (k ++ 61 :: (v ++ 44 :: u)) = some (k, v, u) := by
  unfold parse1; rw [dw_hit 61 k _ h, tw_hit 61 k _ h]
  simp only [h2, if_false, head_ne hr, dw_hit 44 v _ h3, tw_hit 44 v _ h3, hu]
theorem p_bcomma {k v : Bs} (h : 61 ∉ k) (h2 : 44 ∉ k) (hr : ∀ q, v ++ 44 :: [] ≠ 34 :: q) (h3 : 44 ∉ v) : parse1 (k ++ 61 :: (v ++ 44 :: [])) = none := by
  unfold parse1; rw [dw_hit 61 k _ h, tw_hit 61 k _ h]
  simp only [h2, if_false, head_ne hr, dw_hit 44 v _ h3, if_true]

theorem splitL_nil (f : Nat) (acc : List Pr) : splitL f [] acc = some acc := by cases f <;> rfl
theorem splitL_none {f : Nat} {l : Bs} {acc : List Pr} (hl : l ≠ []) (hf : l.length ≤ f) (h : parse1 l = none) : splitL f l acc = none := by
  match f, l, hl, hf with
  | 0, _ :: _, _, hf => simp at hf
  | f + 1, a :: l, _, _ => unfold splitL; rw [h]
theorem splitL_some {f : Nat} {l : Bs} {acc : List Pr} {k v r : Bs} (hl : l ≠ []) (hf : l.length ≤ f) (h : parse1 l = some (k, v, r)) : splitL f l acc = splitL (f - 1) r (acc ++ [(k, v)]) := by
  match f, l, hl, hf with
  | 0, _ :: _, _, hf => simp at hf
  | f + 1, a :: l, _, _ => conv => lhs; unfold splitL
                           rw [h]; simp

end Go.Proofs.Qxb6603723aFmt
