/-
  FnSplitPairsParsesExactlyTheGrammar answers true.
-/
import Derived.Test.Qxb6603723aFmtZZ
import Derived.Test.Qxb6603723aFmtWof
import Derived.Deep.RegionWith
import Derived.Deep.QuietTactic
import Derived.BigQuiet
namespace Go.Proofs.Qxb6603723aFmt
open Go.RowKit
attribute [local go_sem] run_eqnil23

theorem range_getD (T : List Tr) : (List.range T.length).map (fun j => T.getD j ([], [], false)) = T := by
  apply List.ext_getElem?
  intro j
  by_cases h : j < T.length
  · simp [h]
  · rw [List.getElem?_eq_none (by simp; omega), List.getElem?_eq_none (by omega)]
theorem W_of (T : List Tr) : W (fun j => T.getD j ([], [], false)) T.length = written T := by
  unfold W; rw [range_getD]

theorem Str2_own {w : World} {base g n : Nat} {xs : List Value} {q : Nat → Bs} (h : w.ownsRow base 9 1 (.slice (some ⟨g, 0, none⟩) n n) n xs) (hx : ∀ j, j < n → xs[j]? = some (.string (B (q j)))) :
    Str2 w (some ⟨g, 0, none⟩) n q := by
  intro k hk
  refine ⟨g, 0, rfl, ?_⟩
  rw [Nat.zero_add, h.cellAt k (by omega)]
  exact hx k hk

theorem inG (s : ByteArray) (hs : s.size ≤ 1048576) (b : Bool) (h : b = accB (runA s.data.toList 0)) (w : World) :
    Calls Tryf.prog 7 #[.string s] w fun e w' => e = .returned (.bool b) ∧ w' = w := by
  subst h; exact inGrammar_any s hs w

/-- How the two plain functions agree, and what an accepted text is. -/
theorem outcome (s : ByteArray) :
    (splitL s.size s.data.toList [] = none ∧ accB (runA s.data.toList 0) = false ∧ s.data.toList ≠ []) ∨
    (splitL s.size s.data.toList [] = some [] ∧ accB (runA s.data.toList 0) = true ∧ s.data.toList = []) ∨
    (∃ T : List Tr, T ≠ [] ∧ splitL s.size s.data.toList [] = some (T.map fun p => (p.1, p.2.1)) ∧ accB (runA s.data.toList 0) = true ∧ (∀ p ∈ T, okT p) ∧ s.data.toList = written T ∧ s.data.toList ≠ []) := by
  by_cases h : s.data.toList = []
  · refine Or.inr (Or.inl ⟨?_, ?_, h⟩)
    · rw [h]; exact splitL_nil _ _
    · rw [h]; rfl
  · rcases grammar s.data.toList.length s.data.toList (Nat.le_refl _) h s.size (by rw [size_list]; omega) 0 (by omega) [] with ⟨h1, h2⟩ | ⟨T, h0, h1, h2, h3, h4⟩
    · exact Or.inl ⟨h1, h2, h⟩
    · exact Or.inr (Or.inr ⟨T, h0, by simpa using h1, h2, h3, h4, h⟩)

set_option maxRecDepth 100000 in
set_option maxHeartbeats 4000000 in
theorem parse_any (s : ByteArray) (hs : s.size ≤ maxLen) (w : World) :
    Calls Tryf.prog 3 #[.string s] w fun e w' => e = .returned (.bool true) ∧ Below w.heap.size w w' := by
  unfold maxLen at hs
  by_cases hb : s.size ≤ 1048576
  rotate_left
  · go_enter Tryf.func3, Tryf.ntmps3
    go_wp2_with fail
    refine (zzBytesP_no s hb _).mono ?_
    rintro e w1 ⟨rfl, rfl⟩
    go_wp2
    go_ret
    exact ⟨rfl, Below.refl _ _⟩
  obtain ⟨base, hbase⟩ : ∃ b, b = w.heap.size := ⟨_, rfl⟩
  rw [← hbase]
  have HBS : Hid (base = w.heap.size) := hbase
  clear hbase
  go_enter Tryf.func3, Tryf.ntmps3
  go_wp2_with fail
  refine (zzBytesP_yes s hb _).mono ?_
  rintro e w1 ⟨rfl, hw9⟩
  have hw8 := hw9.symm
  clear hw9
  subst hw8
  go_wp2_with fail
  refine (zz_any s hb _).mono ?_
  rintro e w2 ⟨hb2, hout⟩
  rw [← HBS.out] at hb2
  have hout2 := outcome s
  obtain ⟨R, hR⟩ : ∃ R, R = splitL s.size s.data.toList [] := ⟨_, rfl⟩
  obtain ⟨G, hG⟩ : ∃ G, G = accB (runA s.data.toList 0) := ⟨_, rfl⟩
  rw [← hR] at hout hout2
  rw [← hG] at hout2
  have HG : Hid (G = accB (runA s.data.toList 0)) := hG
  clear hR hG
  rcases hout with ⟨hr, b, rfl⟩ | ⟨hr, rfl⟩ | ⟨ps, gk, gv, hr, hp0, hpl, rfl, hok2, hov2⟩
  · subst hr
    have hg : G = false := by
      rcases hout2 with ⟨_, h, _⟩ | ⟨h, _⟩ | ⟨T, _, h, _⟩
      · exact h
      · simp at h
      · simp at h
    subst hg
    clear hout2
    go_wp2_with fail
    go_quiet ((go_at_call 7; exact Calls.quiet_of_same (inG s hb false HG.out _)))
    go_wp2
    go_ret
    exact ⟨rfl, below_drewN hb2 _⟩
  · subst hr
    have hg : G = true ∧ s.data.toList = [] := by
      rcases hout2 with ⟨h, _⟩ | ⟨_, h, h2⟩ | ⟨T, h0, h, _⟩
      · simp at h
      · exact ⟨h, h2⟩
      · simp at h; exact absurd h h0
    obtain ⟨hg1, hg2⟩ := hg
    subst hg1
    clear hout2
    have hse : s.toList.isEmpty = true := by rw [ByteArray.toList_eq, hg2]; rfl
    have HE : Hid (s.data.toList = []) := hg2
    clear hg2
    go_wp2_with fail
    go_quiet ((go_at_call 7; exact Calls.quiet_of_same (inG s hb true HG.out _)))
    go_wp2_with fail
    refine (writing_true s (fun _ => ([], [], false)) 0 (by omega) hb (by rw [HE.out]; rfl) (fun j hj => absurd hj (by omega)) _ _ _ _ _ (fun j hj => absurd hj (by omega)) (fun j hj => absurd hj (by omega))).mono ?_
    rintro e w3 ⟨rfl, m3, rfl⟩
    go_wp2
    go_ret
    exact ⟨rfl, below_drewN hb2 _⟩
  · subst hr
    have hg : G = true ∧ ∃ T : List Tr, ps = T.map (fun p => (p.1, p.2.1)) ∧ (∀ p ∈ T, okT p) ∧ s.data.toList = written T ∧ s.data.toList ≠ [] := by
      rcases hout2 with ⟨h, _⟩ | ⟨h, h2, _⟩ | ⟨T, h0, h, h2, h3, h4, h5⟩
      · simp at h
      · simp at h; exact absurd h hp0
      · exact ⟨h2, T, by simpa using h, h3, h4, h5⟩
    obtain ⟨hg1, T, hT1, hT2, hT3, hT4⟩ := hg
    subst hg1
    clear hout2
    have hse : s.toList.isEmpty = false := by rw [ByteArray.toList_eq]; exact List.isEmpty_eq_false_iff.2 hT4
    have hpT : ps.length = T.length := by rw [hT1]; simp
    have HX3 : Hid (Str2 w2 (some ⟨gk, 0, none⟩) ps.length (fun j => (T.getD j ([], [], false)).1)) := Str2_own hok2 (fun j hj => by rw [hT1]; simp [(show j < T.length from by omega)])
    have HY3 : Hid (Str2 w2 (some ⟨gv, 0, none⟩) ps.length (fun j => (T.getD j ([], [], false)).2.1)) := Str2_own hov2 (fun j hj => by rw [hT1]; simp [(show j < T.length from by omega)])
    have HW : Hid (s.data.toList = W (fun j => T.getD j ([], [], false)) ps.length) := by rw [hpT, W_of]; exact hT3
    have HOK : Hid (∀ j, j < ps.length → okT (T.getD j ([], [], false))) := fun j hj => hT2 _ (by
      have hj2 : j < T.length := by omega
      rw [show T.getD j ([], [], false) = T[j] from by simp [List.getD, hj2]]
      exact List.getElem_mem hj2)
    clear hT1 hT2 hT3 hT4 hpT hok2 hov2 hp0
    go_wp2_with fail
    go_quiet ((go_at_call 7; exact Calls.quiet_of_same (inG s hb true HG.out _)))
    go_wp2_with fail
    refine (writing_true s (fun j => T.getD j ([], [], false)) ps.length hpl hb HW.out HOK.out _ _ _ _ _ (by exact HX3.out) (by exact HY3.out)).mono ?_
    rintro e w3 ⟨rfl, m3, rfl⟩
    go_wp2
    go_ret
    exact ⟨rfl, below_drewN hb2 _⟩

end Go.Proofs.Qxb6603723aFmt
