/-
  The plain law of the grammar: the automaton accepts just what splits; what splits is the writing of its pairs. No program.
-/
import Derived.Test.Qxb6603723aFmtWritten
namespace Go.Proofs.Qxb6603723aFmt

def stp (st : Nat) (c : UInt8) : Nat :=
  if st ≤ 2 then (if c = 61 then 3 else if c = 44 then 7 else 2)
  else if st = 3 then (if c = 34 then 4 else if c = 44 then 1 else 6)
  else if st = 4 then (if c = 34 then 5 else 4)
  else if st = 5 then (if c = 44 then 1 else 7)
  else if st = 6 then (if c = 44 then 1 else 6)
  else 7
def runA (l : Bs) (st : Nat) : Nat := l.foldl stp st
def accB (st : Nat) : Bool := st == 0 || st == 3 || st == 5 || st == 6

theorem stp_le (st : Nat) (c : UInt8) : stp st c ≤ 7 := by
  unfold stp
  repeat' split
  all_goals omega
theorem runA_app (a b : Bs) (st : Nat) : runA (a ++ b) st = runA b (runA a st) := List.foldl_append
theorem runA_cons (c : UInt8) (b : Bs) (st : Nat) : runA (c :: b) st = runA b (stp st c) := rfl
theorem runA_nil (st : Nat) : runA [] st = st := rfl
theorem runA_le : ∀ (l : Bs) (st : Nat), st ≤ 7 → runA l st ≤ 7
  | [], _, h => h
  | c :: l, st, _ => runA_le l (stp st c) (stp_le st c)

theorem stp_low {st : Nat} (h : st ≤ 2) (c : UInt8) : stp st c = if c = 61 then 3 else if c = 44 then 7 else 2 := by unfold stp; rw [if_pos h]
theorem stp3 (c : UInt8) : stp 3 c = if c = 34 then 4 else if c = 44 then 1 else 6 := rfl
theorem stp4 (c : UInt8) : stp 4 c = if c = 34 then 5 else 4 := rfl
theorem stp5 (c : UInt8) : stp 5 c = if c = 44 then 1 else 7 := rfl
theorem stp6 (c : UInt8) : stp 6 c = if c = 44 then 1 else 6 := rfl
theorem stp7 (c : UInt8) : stp 7 c = 7 := rfl

theorem run_dead : ∀ (l : Bs), runA l 7 = 7
  | [] => rfl
  | c :: l => by rw [runA_cons, stp7]; exact run_dead l
theorem run_q : ∀ (l : Bs), 34 ∉ l → runA l 4 = 4
  | [], _ => rfl
  | c :: l, h => by
    have h1 : c ≠ 34 := fun e => h (by simp [e])
    rw [runA_cons, stp4, if_neg h1]
    exact run_q l (fun e => h (by simp [e]))
theorem run_b : ∀ (l : Bs), 44 ∉ l → runA l 6 = 6
  | [], _ => rfl
  | c :: l, h => by
    have h1 : c ≠ 44 := fun e => h (by simp [e])
    rw [runA_cons, stp6, if_neg h1]
    exact run_b l (fun e => h (by simp [e]))
theorem run_key : ∀ (l : Bs) (st : Nat), st ≤ 2 → 61 ∉ l → 44 ∉ l → runA l st ≤ 2
  | [], _, h, _, _ => h
  | c :: l, st, h, h1, h2 => by
    have e1 : c ≠ 61 := fun e => h1 (by simp [e])
    have e2 : c ≠ 44 := fun e => h2 (by simp [e])
    rw [runA_cons, stp_low h, if_neg e1, if_neg e2]
    exact run_key l 2 (by omega) (fun e => h1 (by simp [e])) (fun e => h2 (by simp [e]))
/-- A text without '=' ends in the key or dead. -/
theorem run_noeq : ∀ (l : Bs) (st : Nat), (st = 2 ∨ st = 7) → 61 ∉ l → (runA l st = 2 ∨ runA l st = 7)
  | [], _, h, _ => h
  | c :: l, st, h, h1 => by
    have e1 : c ≠ 61 := fun e => h1 (by simp [e])
    rw [runA_cons]
    refine run_noeq l _ ?_ (fun e => h1 (by simp [e]))
    rcases h with rfl | rfl
    · rw [stp_low (by omega), if_neg e1]
      split
      · exact Or.inr rfl
      · exact Or.inl rfl
    · exact Or.inr (stp7 c)
theorem run_comma {k1 k2 : Bs} {st : Nat} (h : st ≤ 2) (h1 : 61 ∉ k1) (h2 : 44 ∉ k1) : runA (k1 ++ 44 :: k2) st = 7 := by
  rw [runA_app, runA_cons, stp_low (run_key k1 st h h1 h2)]
  simp only [if_neg (show ¬ (44 : UInt8) = 61 from by decide), if_true]
  exact run_dead k2
theorem run_value {k r : Bs} {st : Nat} (h : st ≤ 2) (h1 : 61 ∉ k) (h2 : 44 ∉ k) : runA (k ++ 61 :: r) st = runA r 3 := by
  rw [runA_app, runA_cons, stp_low (run_key k st h h1 h2), if_pos rfl]
theorem run_bare {v : Bs} (h : ∀ q, v ≠ 34 :: q) (h2 : 44 ∉ v) : runA v 3 = 3 ∨ runA v 3 = 6 := by
  cases v with
  | nil => exact Or.inl rfl
  | cons c v =>
    have e1 : c ≠ 34 := fun e => h v (by rw [e])
    have e2 : c ≠ 44 := fun e => h2 (by simp [e])
    rw [runA_cons, stp3, if_neg e1, if_neg e2]
    exact Or.inr (run_b v (fun e => h2 (by simp [e])))
theorem run_quoted {v t : Bs} (h : 34 ∉ v) : runA (34 :: (v ++ 34 :: t)) 3 = runA t 5 := by
  rw [runA_cons, stp3, if_pos rfl, runA_app, run_q v h, runA_cons, stp4, if_pos rfl]

/-- One pair read from the front, and what the automaton makes of it. -/
theorem parse_run (l : Bs) (hl : l ≠ []) (st : Nat) (hst : st ≤ 2) :
    (parse1 l = none ∧ accB (runA l st) = false) ∨
    (∃ k v b, parse1 l = some (k, v, []) ∧ accB (runA l st) = true ∧ okT (k, v, b) ∧ l = piece (k, v, b)) ∨
    (∃ k v b r, r ≠ [] ∧ parse1 l = some (k, v, r) ∧ runA l st = runA r 1 ∧ okT (k, v, b) ∧ l = piece (k, v, b) ++ 44 :: r) := by
  rcases split_at l 61 with h61 | ⟨k, r, rfl, hk⟩
  · refine Or.inl ⟨p_noeq h61, ?_⟩
    cases l with
    | nil => exact absurd rfl hl
    | cons c l =>
      have e1 : c ≠ 61 := fun e => h61 (by simp [e])
      have := run_noeq l (stp st c) (by rw [stp_low hst, if_neg e1]; split; exact Or.inr rfl; exact Or.inl rfl) (fun e => h61 (by simp [e]))
      rw [runA_cons]
      rcases this with e | e <;> rw [e] <;> rfl
  · by_cases h44 : 44 ∈ k
    · refine Or.inl ⟨p_comma hk h44, ?_⟩
      rcases split_at k 44 with h | ⟨k1, k2, rfl, hk1⟩
      · exact absurd h44 h
      · rw [List.append_assoc, List.cons_append, run_comma hst (fun e => hk (by simp [e])) hk1]
        rfl
    · rw [run_value hst hk h44]
      by_cases hq : ∃ q, r = 34 :: q
      · obtain ⟨q, rfl⟩ := hq
        rcases split_at q 34 with h34 | ⟨v, t, rfl, hv⟩
        · refine Or.inl ⟨p_open hk h44 h34, ?_⟩
          rw [runA_cons, stp3, if_pos rfl, run_q q h34]; rfl
        · rw [run_quoted hv]
          cases t with
          | nil => exact Or.inr (Or.inl ⟨k, v, false, p_qend hk h44 hv, rfl, ⟨hk, h44, hv⟩, rfl⟩)
          | cons x u =>
            by_cases hx : x = 44
            · subst hx
              rw [runA_cons, stp5, if_pos rfl]
              by_cases hu : u = []
              · subst hu
                exact Or.inl ⟨p_qcomma hk h44 hv, rfl⟩
              · exact Or.inr (Or.inr ⟨k, v, false, u, hu, p_qnext hk h44 hv hu, rfl, ⟨hk, h44, hv⟩, by simp [piece]⟩)
            · refine Or.inl ⟨p_qjunk hk h44 hv hx, ?_⟩
              rw [runA_cons, stp5, if_neg hx, run_dead]; rfl
      · have hq' : ∀ q, r ≠ 34 :: q := fun q e => hq ⟨q, e⟩
        rcases split_at r 44 with hr | ⟨v, u, rfl, hv⟩
        · refine Or.inr (Or.inl ⟨k, r, true, p_bend hk h44 hq' hr, ?_, ⟨hk, h44, hr, head_ne hq'⟩, rfl⟩)
          rcases run_bare hq' hr with e | e <;> rw [e] <;> rfl
        · have hv' : ∀ q, v ≠ 34 :: q := by rintro q rfl; exact hq' (q ++ 44 :: u) rfl
          have er : runA (v ++ 44 :: u) 3 = runA u 1 := by
            rw [runA_app, runA_cons]
            rcases run_bare hv' hv with e | e <;> rw [e] <;> rfl
          rw [er]
          by_cases hu : u = []
          · subst hu
            exact Or.inl ⟨p_bcomma hk h44 hq' hv, rfl⟩
          · exact Or.inr (Or.inr ⟨k, v, true, u, hu, p_bnext hk h44 hq' hv hu, rfl, ⟨hk, h44, hv, head_ne hv'⟩, by simp [piece]⟩)

/-- The automaton accepts just what splits; and what splits is the writing of its pairs. -/
theorem grammar : ∀ (n : Nat) (l : Bs), l.length ≤ n → l ≠ [] → ∀ (f : Nat), l.length ≤ f → ∀ (st : Nat), st ≤ 2 → ∀ (acc : List Pr),
    (splitL f l acc = none ∧ accB (runA l st) = false) ∨
    (∃ T : List Tr, T ≠ [] ∧ splitL f l acc = some (acc ++ T.map fun p => (p.1, p.2.1)) ∧ accB (runA l st) = true ∧ (∀ p ∈ T, okT p) ∧ l = written T)
  | 0, l, hn, hl, _, _, _, _, _ => absurd (List.eq_nil_of_length_eq_zero (by omega)) hl
  | n + 1, l, hn, hl, f, hf, st, hst, acc => by
    rcases parse_run l hl st hst with ⟨h1, h2⟩ | ⟨k, v, b, h1, h2, h3, h4⟩ | ⟨k, v, b, r, hr, h1, h2, h3, h4⟩
    · exact Or.inl ⟨splitL_none hl hf h1, h2⟩
    · refine Or.inr ⟨[(k, v, b)], by simp, ?_, h2, by intro p hp; simp at hp; rw [hp]; exact h3, by rw [h4]; simp [written]⟩
      rw [splitL_some hl hf h1, splitL_nil]; simp
    · have hlen : r.length < l.length := by rw [h4]; simp; omega
      rcases grammar n r (by omega) hr (f - 1) (by omega) 1 (by omega) (acc ++ [(k, v)]) with ⟨g1, g2⟩ | ⟨T, g0, g1, g2, g3, g4⟩
      · exact Or.inl ⟨by rw [splitL_some hl hf h1]; exact g1, by rw [h2]; exact g2⟩
      · refine Or.inr ⟨(k, v, b) :: T, by simp, ?_, by rw [h2]; exact g2, ?_, ?_⟩
        · rw [splitL_some hl hf h1, g1]; simp
        · intro p hp
          simp at hp
          rcases hp with rfl | hp
          · exact h3
          · exact g3 p hp
        · rw [h4, g4]
          cases T with
          | nil => exact absurd rfl g0
          | cons q T => rw [written_two]

end Go.Proofs.Qxb6603723aFmt
