/-
  scram.ZZSplitPairs: the pairs laid out as two lists.
-/
import Derived.Test.Qxb6603723aFmtSplit
namespace Go.Proofs.Qxb6603723aFmt
open Go.RowKit

theorem run_eqnil (t e : TypeId) (h : Tryf.prog.underlying t = some (.slice e)) (a : Option Addr) (l c : Nat) (w : World) : (binOp .eql t (.slice a l c) (.slice none 0 0)).run Tryf.prog w = .ok (.bool a.isNone) w := by
  have h1 : ∀ d, (Op.equalIn (d + 1) t (.slice a l c) (.slice none 0 0)).run Tryf.prog w = .ok a.isNone w := by
    intro d
    cases a <;> simp [Op.equalIn, run_underlying h]
  have h2 : (Op.equal t (.slice a l c) (.slice none 0 0)).run Tryf.prog w = .ok a.isNone w := h1 9999
  simp [binOp, h2]
theorem run_eqnil34 (a : Option Addr) (l c : Nat) (w : World) : (binOp .eql 34 (.slice a l c) (.slice none 0 0)).run Tryf.prog w = .ok (.bool a.isNone) w := run_eqnil 34 38 Tryf.underlying34 a l c w
theorem run_eqnil23 (a : Option Addr) (l c : Nat) (w : World) : (binOp .eql 23 (.slice a l c) (.slice none 0 0)).run Tryf.prog w = .ok (.bool a.isNone) w := run_eqnil 23 9 Tryf.underlying23 a l c w
attribute [local go_sem] run_eqnil34

theorem Tryf.info9 : (Tryf.prog.info? 9).map (fun i => (i.zero, i.size, i.bytes)) = some (some (.string ⟨#[]⟩), 1, 16) := by kernel_rfl

def kc (sel : Pr → Bs) (ps : List Pr) (m : Nat) : List Value := (List.range ps.length).map fun j => if j < m then .string (B (sel (ps.getD j ([], [])))) else .string ⟨#[]⟩
theorem kc_len (sel : Pr → Bs) (ps : List Pr) (m : Nat) : (kc sel ps m).length = ps.length := by simp [kc]
theorem kc_at (sel : Pr → Bs) (ps : List Pr) (m j : Nat) (h : j < ps.length) : (kc sel ps m)[j]? = some (if j < m then .string (B (sel (ps.getD j ([], [])))) else .string ⟨#[]⟩) := by
  unfold kc
  rw [List.getElem?_map, List.getElem?_range h]; rfl
theorem kc_zero (sel : Pr → Bs) (ps : List Pr) : (madeCells #[Value.string ⟨#[]⟩] ps.length).toList = kc sel ps 0 := by
  have e : (madeCells #[Value.string ⟨#[]⟩] ps.length).toList.length = ps.length := by simp [size_madeCells]
  apply List.ext_getElem?
  intro j
  by_cases h : j < ps.length
  · rw [kc_at sel ps 0 j h]
    simp [madeCells, h, Nat.mod_one]
  · rw [List.getElem?_eq_none (by rw [e]; omega), List.getElem?_eq_none (by rw [kc_len]; omega)]
theorem kc_succ (sel : Pr → Bs) (ps : List Pr) (m : Nat) (h : m < ps.length) : (kc sel ps m).set m (.string (B (sel (ps.getD m ([], []))))) = kc sel ps (m + 1) := by
  apply List.ext_getElem?
  intro j
  by_cases hj : j < ps.length
  · rw [kc_at sel ps (m + 1) j hj, List.getElem?_set]
    by_cases e : m = j
    · subst e; simp [kc_len, h]
    · rw [if_neg e, kc_at sel ps m j hj]
      by_cases hl : j < m
      · rw [if_pos hl, if_pos (by omega)]
      · rw [if_neg hl, if_neg (by omega)]
  · rw [List.getElem?_eq_none (by rw [List.length_set, kc_len]; omega), List.getElem?_eq_none (by rw [kc_len]; omega)]
theorem kc_full (sel : Pr → Bs) (ps : List Pr) : kc sel ps ps.length = ps.map fun p => .string (B (sel p)) := by
  apply List.ext_getElem?
  intro j
  by_cases hj : j < ps.length
  · rw [kc_at sel ps _ j hj, if_pos hj, List.getElem?_map, List.getElem?_eq_getElem hj]
    simp [hj]
  · rw [List.getElem?_eq_none (by rw [kc_len]; omega), List.getElem?_eq_none (by simp; omega)]
theorem cells_at (ps : List Pr) (m : Nat) (h : m < ps.length) : (cellsOf ps)[m * 2]? = some (.string (B (ps.getD m ([], [])).1)) ∧ (cellsOf ps)[m * 2 + 1]? = some (.string (B (ps.getD m ([], [])).2)) := by
  induction ps generalizing m with
  | nil => simp at h
  | cons p ps ih =>
    cases m with
    | zero => simp [cellsOf]
    | succ m =>
      have := ih m (by simpa using h)
      rw [show (m + 1) * 2 = m * 2 + 2 from by omega, show m * 2 + 2 + 1 = (m * 2 + 1) + 2 from by omega]
      simpa [cellsOf] using this

def ZZOut (base : Nat) (r : Option (List Pr)) (e : Ending) (w' : World) : Prop :=
  (r = none ∧ ∃ b, e = .returned (.tuple #[.slice none 0 0, .slice none 0 0, .iface 52 (.pointer (some ⟨b, 0, none⟩))])) ∨
  (r = some [] ∧ e = .returned (.tuple #[.slice none 0 0, .slice none 0 0, .nilIface])) ∨
  (∃ ps gk gv, r = some ps ∧ ps ≠ [] ∧ ps.length ≤ 1048576 ∧ e = .returned (.tuple #[.slice (some ⟨gk, 0, none⟩) ps.length ps.length, .slice (some ⟨gv, 0, none⟩) ps.length ps.length, .nilIface]) ∧
    w'.ownsRow base 9 1 (.slice (some ⟨gk, 0, none⟩) ps.length ps.length) ps.length (ps.map fun p => .string (B p.1)) ∧
    w'.ownsRow base 9 1 (.slice (some ⟨gv, 0, none⟩) ps.length ps.length) ps.length (ps.map fun p => .string (B p.2)))

def ZInv (base gp gk gv cap : Nat) (ps : List Pr) (m : Nat) (w wr : World) : Prop :=
  wr.ownsRow base 38 2 (.slice (some ⟨gp, 0, none⟩) ps.length cap) ps.length (cellsOf ps) ∧
  wr.ownsRow base 9 1 (.slice (some ⟨gk, 0, none⟩) ps.length ps.length) ps.length (kc (·.1) ps m) ∧
  wr.ownsRow base 9 1 (.slice (some ⟨gv, 0, none⟩) ps.length ps.length) ps.length (kc (·.2) ps m) ∧ Below base w wr

theorem zstep {base gp gk gv cap : Nat} {ps : List Pr} {m : Nat} {w wr : World} (h : ZInv base gp gk gv cap ps m w wr) (hm : m < ps.length) (n1 : gp ≠ gk) (n2 : gp ≠ gv) (n3 : gk ≠ gv) (b1 : base ≤ gk) (b2 : base ≤ gv) :
    ZInv base gp gk gv cap ps (m + 1) w ((wr.setCell ⟨gk, m, none⟩ (.string (B (ps.getD m ([], [])).1))).setCell ⟨gv, m, none⟩ (.string (B (ps.getD m ([], [])).2))) := by
  obtain ⟨hp, hk, hv, hb⟩ := h
  obtain ⟨s1, g1⟩ := hk.stored m (.string (B (ps.getD m ([], [])).1))
  have p1 := hp.kept g1 (Or.inr (by simp [Value.ownBlock, n1]))
  have v1 := hv.kept g1 (Or.inr (by simp [Value.ownBlock, Ne.symm n3]))
  obtain ⟨s2, g2⟩ := v1.stored m (.string (B (ps.getD m ([], [])).2))
  have p2 := p1.kept g2 (Or.inr (by simp [Value.ownBlock, n2]))
  have k2 := s1.kept g2 (Or.inr (by simp [Value.ownBlock, n3]))
  rw [kc_succ (·.1) ps m hm] at k2
  rw [kc_succ (·.2) ps m hm] at s2
  exact ⟨p2, k2, s2, (hb.setCell b1 _).setCell b2 _⟩

set_option maxRecDepth 100000 in
set_option maxHeartbeats 4000000 in
theorem zz_any (s : ByteArray) (hs : s.size ≤ 1048576) (w : World) :
    Calls Tryf.prog 6 #[.string s] w fun e w' => Below w.heap.size w w' ∧ ZZOut w.heap.size (splitL s.size s.data.toList []) e w' := by
  obtain ⟨base, hbase⟩ : ∃ b, b = w.heap.size := ⟨_, rfl⟩
  obtain ⟨R, hR⟩ : ∃ R, R = splitL s.size s.data.toList [] := ⟨_, rfl⟩
  rw [← hR, ← hbase]
  have HB : Hid (base = w.heap.size) := hbase
  have HR : Hid (R = splitL s.size s.data.toList []) := hR
  clear hR hbase
  obtain ⟨i0, hi, hz0, hz1, hz2⟩ := info_parts Tryf.info9
  go_enter Tryf.func6, Tryf.ntmps6
  go_wp2_with fail
  refine (split_any s hs _).mono ?_
  rintro e w1 ⟨hb, hout⟩
  rw [← HB.out, ← HR.out] at hout
  rw [← HB.out] at hb
  rcases hout with ⟨hr, b, rfl⟩ | ⟨ps, v, hr, rfl, hown, hnil, hlen⟩
  · have HR2 : Hid (R = none) := hr
    clear hr
    go_wp2
    go_ret3
    exact ⟨hb, Or.inl ⟨HR2.out, b, rfl⟩⟩
  · have HR2 : Hid (R = some ps) := hr
    clear hr
    rcases hown.2 with ⟨rfl, h0⟩ | ⟨gp, cap, cur, rfl, hbg, hgp, hcap, _, _, _⟩
    · have hp0 : ps = [] := hnil.1 rfl
      subst hp0
      clear hnil hown
      go_wp2
      go_ret3
      exact ⟨hb, Or.inr (Or.inl ⟨HR2.out, rfl⟩)⟩
    · have hp0 : ps ≠ [] := fun e => by have := hnil.2 e; simp at this
      have hlt := hown.lt gp rfl
      have HO : Hid (w1.ownsRow base 38 2 (.slice (some ⟨gp, 0, none⟩) ps.length cap) ps.length (cellsOf ps)) := hown
      clear hnil hown hgp
      have hps : ps.length ≤ 1048576 := hlen
      have hzb : base ≤ w1.heap.size := by have := hb.size; have := HB.out; omega
      go_wp2_with (at_make; refine wpList_make_full _ rfl (.tmp 19) (.tmp 19) 23 rfl base 9 i0 (.string ⟨#[]⟩) 1 Tryf.underlying23 hi hz0 hz1 .i64 .i64 _ _ ps.length rfl rfl rfl rfl (by rw [hz2]; omega) (by unfold maxLen; omega) hzb ?_)
      intro w2 ho2 hg2
      have hs2 := hg2.size
      have hlt2 := ho2.lt _ rfl
      have HO2 : Hid (w2.ownsRow base 38 2 (.slice (some ⟨gp, 0, none⟩) ps.length cap) ps.length (cellsOf ps)) := HO.out.kept hg2 (Or.inr (by simp [Value.ownBlock]))
      have hb2 : Below base w w2 := hb.grown hg2 hzb (by simp)
      have HK2 : Hid (w2.ownsRow base 9 1 (.slice (some ⟨w1.heap.size, 0, none⟩) ps.length ps.length) ps.length (kc (·.1) ps 0)) := by rw [← kc_zero]; exact ho2
      clear ho2 hg2
      go_wp2_with (at_make; refine wpList_make_full _ rfl (.tmp 22) (.tmp 22) 23 rfl base 9 i0 (.string ⟨#[]⟩) 1 Tryf.underlying23 hi hz0 hz1 .i64 .i64 _ _ ps.length rfl rfl rfl rfl (by rw [hz2]; omega) (by unfold maxLen; omega) (by omega) ?_)
      intro w3 ho3 hg3
      have HI3 : Hid (ZInv base gp w1.heap.size w2.heap.size cap ps 0 w w3) := ⟨HO2.out.kept hg3 (Or.inr (by simp [Value.ownBlock])), HK2.out.kept hg3 (Or.inr (by simp [Value.ownBlock])), by rw [← kc_zero]; exact ho3, hb2.grown hg3 (by omega) (by simp)⟩
      clear ho3 hg3
      obtain ⟨gk, hgk⟩ : ∃ g, g = w1.heap.size := ⟨_, rfl⟩
      obtain ⟨gv, hgv⟩ : ∃ g, g = w2.heap.size := ⟨_, rfl⟩
      have n1 : gp ≠ gk := by omega
      have n2 : gp ≠ gv := by omega
      have n3 : gk ≠ gv := by omega
      have m1 : base ≤ gk := by omega
      have m2 : base ≤ gv := by omega
      rw [← hgk, ← hgv] at HI3 ⊢
      clear hgk hgv hs2 hlt2 HO2 HK2 hb2 hzb HO hlt
      go_wp2_with fail
      go_loopw [26] (fun i wr => ∃ m : Nat, m ≤ ps.length ∧ i = .int .i64 m ∧ Hid (ZInv base gp gk gv cap ps m w wr)) (fun i _ => ps.length - (intOf i).toNat)
      case atStart => exact ⟨0, Nat.zero_le _, rfl, HI3⟩
      case round =>
        obtain ⟨m, hm, rfl, hinv⟩ := hrel
        by_cases hlt : m < ps.length
        · have c1 : wr.cell? ⟨gp, m * 2, none⟩ = some (.string (B (ps.getD m ([], [])).1)) := (hinv.out.1.cellAt (m * 2) (by omega)).trans (cells_at ps m hlt).1
          have c2 : wr.cell? ⟨gp, m * 2 + 1, none⟩ = some (.string (B (ps.getD m ([], [])).2)) := (hinv.out.1.cellAt (m * 2 + 1) (by omega)).trans (cells_at ps m hlt).2
          have c3 : wr.frozen? ⟨gk, m, none⟩ = false := hinv.out.2.1.frozenAt m
          have c4 : wr.frozen? ⟨gv, m, none⟩ = false := hinv.out.2.2.1.frozenAt m
          have c5 := (hinv.out.2.1.cellAt m (by omega)).trans (kc_at (·.1) ps m m hlt)
          have c6 := (hinv.out.2.2.1.cellAt m (by omega)).trans (kc_at (·.2) ps m m hlt)
          obtain ⟨p, hp⟩ : ∃ p, p = ps.getD m ([], []) := ⟨_, rfl⟩
          have HP : Hid (p = ps.getD m ([], [])) := hp
          rw [← hp] at c1 c2
          clear hp
          go_wp2
          go_roundw
          case rel => exact ⟨m + 1, by omega, by go_num, by have := zstep hinv.out hlt n1 n2 n3 m1 m2; rw [← HP.out] at this; exact this⟩
          case measure => simp [intOf]; omega
        · have hme : m = ps.length := by omega
          have HI4 : Hid (ZInv base gp gk gv cap ps ps.length w wr) := by rw [← hme]; exact hinv
          clear hme
          go_wp2
          go_ret3
          exact ⟨HI4.out.2.2.2, Or.inr (Or.inr ⟨ps, gk, gv, HR2.out, hp0, hlen, rfl, by rw [← kc_full (·.1)]; exact HI4.out.2.1, by rw [← kc_full (·.2)]; exact HI4.out.2.2.1⟩)⟩

end Go.Proofs.Qxb6603723aFmt
