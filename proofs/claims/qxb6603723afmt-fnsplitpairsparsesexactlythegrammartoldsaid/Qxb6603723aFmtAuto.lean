/-
  The automaton's walk: step, inGrammar; hasAt; the length bound of the first law.
-/
import Derived.Test.Qxb6603723aFmtLeaf
import Derived.Test.Qxb6603723aFmtGrammar
namespace Go.Proofs.Qxb6603723aFmt
open Go.RowKit

theorem ret_int {k : IntKind} {a b : Int} (h : a = b) : Ending.returned (.int k a) = .returned (.int k b) := by rw [h]
theorem u8_eq {c d : UInt8} (h : ((c.toNat : Int) == (d.toNat : Int)) = true) : c = d := by
  simp at h; exact UInt8.toNat_inj.1 (by omega)
theorem u8_ne {c d : UInt8} (h : ((c.toNat : Int) == (d.toNat : Int)) = false) : c ≠ d := by
  rintro rfl; simp at h

set_option maxHeartbeats 4000000 in
theorem step_any (st : Nat) (hst : st ≤ 7) (c : UInt8) (w : World) :
    Calls Tryf.prog 13 #[.int .i64 st, .int .u8 c.toNat] w fun e w' => e = .returned (.int .i64 (stp st c : Nat)) ∧ w' = w := by
  cases h61 : ((c.toNat : Int) == 61) <;> cases h44 : ((c.toNat : Int) == 44) <;> cases h34 : ((c.toNat : Int) == 34)
  all_goals
    have HC : Hid ((decide (c = 61), decide (c = 44), decide (c = 34)) = (((c.toNat : Int) == 61), ((c.toNat : Int) == 44), ((c.toNat : Int) == 34))) := by
      have e1 : ∀ d : UInt8, decide (c = d) = ((c.toNat : Int) == (d.toNat : Int)) := by
        intro d
        cases h : ((c.toNat : Int) == (d.toNat : Int))
        · simpa using u8_ne h
        · simpa using u8_eq h
      have a1 := e1 61; have a2 := e1 44; have a3 := e1 34
      show (_, _, _) = (_, _, _)
      rw [a1, a2, a3]; rfl
    rw [h61, h44, h34] at HC
    match st, hst with
    | 0, _ | 1, _ | 2, _ | 3, _ | 4, _ | 5, _ | 6, _ | 7, _ =>
      go_enter Tryf.func13, Tryf.ntmps13
      go_wp2
      go_ret
      refine ⟨ret_int ?_, rfl⟩
      have hc := HC.out
      simp only [Prod.mk.injEq, decide_eq_true_eq, decide_eq_false_iff_not] at hc
      first | exact absurd (hc.1.symm.trans hc.2.1) (by decide) | exact absurd (hc.1.symm.trans hc.2.2) (by decide) | exact absurd (hc.2.1.symm.trans hc.2.2) (by decide) | (simp only [stp, hc.1, hc.2.1, hc.2.2]; simp; done) | (simp [stp, hc.1, hc.2.1, hc.2.2]; done) | (simp [stp, hc.1]; done)

set_option maxHeartbeats 1000000 in
theorem inGrammar_any (s : ByteArray) (hs : s.size ≤ 1048576) (w : World) :
    Calls Tryf.prog 7 #[.string s] w fun e w' => e = .returned (.bool (accB (runA s.data.toList 0))) ∧ w' = w := by
  go_enter Tryf.func7, Tryf.ntmps7
  go_wp2
  go_loop [3, 4] (fun st i => ∃ k : Nat, k ≤ s.size ∧ i = .int .i64 k ∧ st = .int .i64 (runA (s.data.toList.take k) 0 : Nat)) (fun _ i => s.size - (intOf i).toNat)
  case atStart => exact ⟨0, Nat.zero_le _, rfl, rfl⟩
  case round =>
    obtain ⟨k, hk, rfl, rfl⟩ := hrel
    obtain ⟨q, hq⟩ : ∃ q, q = runA (s.data.toList.take k) 0 := ⟨_, rfl⟩
    have hq7 : q ≤ 7 := by rw [hq]; exact runA_le _ _ (by omega)
    rw [← hq]
    have HQ : Hid (q = runA (s.data.toList.take k) 0) := hq
    clear hq
    by_cases hlt : k < s.size
    · have HS : Hid (runA (s.data.toList.take (k + 1)) 0 = stp q s[k]) := by rw [take_snoc s k hlt, runA_app, HQ.out]; rfl
      go_wp2_with (go_at_call 13; refine (step_any q hq7 s[k] _).mono ?_; rintro e w' ⟨rfl, rfl⟩)
      go_round
      case rel => exact ⟨k + 1, by omega, by go_num, by rw [HS.out]⟩
      case measure => simp [intOf]; omega
    · have HF : Hid (q = runA s.data.toList 0) := by
        have := HQ.out; rw [List.take_of_length_le (by rw [size_list]; omega)] at this; exact this
      clear HQ
      match q, hq7 with
      | 0, _ | 1, _ | 2, _ | 3, _ | 4, _ | 5, _ | 6, _ | 7, _ =>
        go_wp2
        go_ret
        exact ⟨ret_bool (by rw [← HF.out]; rfl), rfl⟩

set_option maxHeartbeats 1000000 in
theorem hasAt_true (s t : ByteArray) (hs : s.size ≤ 1048576) (p : Nat) (x y : Bs) (h : s.data.toList = x ++ (t.data.toList ++ y)) (hp : x.length = p) (w : World) :
    Calls Tryf.prog 14 #[.string s, .int .i64 p, .string t] w fun e w' => e = .returned (.bool true) ∧ ∃ n, w' = w.drewN n := by
  have hl : s.size = p + t.size + y.length := by
    have := size_list s; rw [h] at this; simp at this; have := size_list t; simp at this; omega
  have hle : p + t.size ≤ s.size := by omega
  have HA : Hid (∀ k (h1 : p + k < s.size) (h2 : k < t.size), s[p + k] = t[k]) := by
    subst hp
    intro k h1 h2
    have e1 : s.data.toList[x.length + k]? = some s[x.length + k] := by rw [List.getElem?_eq_getElem (by rw [size_list]; exact h1)]; rfl
    have e2 : t.data.toList[k]? = some t[k] := by rw [List.getElem?_eq_getElem (by rw [size_list]; exact h2)]; rfl
    rw [h, List.getElem?_append_right (by omega), show x.length + k - x.length = k from by omega, List.getElem?_append_left (by rw [size_list]; exact h2), e2] at e1
    exact (Option.some.inj e1).symm
  clear h hl hp
  go_enter Tryf.func14, Tryf.ntmps14
  go_wp2
  go_loopw [7] (fun i wr => ∃ k n : Nat, k ≤ t.size ∧ i = .int .i64 k ∧ wr = w.drewN n) (fun i _ => t.size - (intOf i).toNat)
  case atStart => exact ⟨0, 0, Nat.zero_le _, rfl, rfl⟩
  case round =>
    obtain ⟨k, n, hk, rfl, rfl⟩ := hrel
    by_cases hlt : k < t.size
    · have h1 : p + k < s.size := by omega
      have he : s[p + k] = t[k] := HA.out k h1 hlt
      have g1 : (0 : Int) ≤ ↑p + ↑k := by omega
      have g2 : (↑p : Int) + ↑k < ↑s.size := by omega
      go_wp2
      go_region
      all_goals (try go_wp2)
      all_goals
        go_roundw
        case rel => exact ⟨k + 1, _, by omega, by go_num, rfl⟩
        case measure => simp [intOf]; omega
    · go_wp2
      go_ret
      exact ⟨rfl, n, rfl⟩

theorem zzBytesP_yes (s : ByteArray) (hs : s.size ≤ 1048576) (w : World) : Calls Tryf.prog 5 #[.string s] w fun e w' => e = .returned (.bool true) ∧ w' = w := by
  go_enter Tryf.func5, Tryf.ntmps5
  go_wp2
  go_ret
  exact ⟨rfl, rfl⟩
theorem zzBytesP_no (s : ByteArray) (hs : ¬ s.size ≤ 1048576) (w : World) : Calls Tryf.prog 5 #[.string s] w fun e w' => e = .returned (.bool false) ∧ w' = w := by
  go_enter Tryf.func5, Tryf.ntmps5
  go_wp2
  go_ret
  exact ⟨rfl, rfl⟩

end Go.Proofs.Qxb6603723aFmt
