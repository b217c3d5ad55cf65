/-
  FnSplitPairsReadsBackWrittenPairs answers true.
-/
import Derived.Test.Qxb6603723aFmtZZ
import Derived.Test.Qxb6603723aFmtBound
import Derived.Test.Qxb6603723aFmtWritten
import Derived.Test.Qxb6603723aFmtBuf
namespace Go.Proofs.Qxb6603723aFmt
open Go.RowKit

def Boo (w : World) (ao : Option Addr) (bs : List Bool) : Prop :=
  ∀ k, k < bs.length → ∃ b off, ao = some ⟨b, off, none⟩ ∧ w.cell? ⟨b, off + k, none⟩ = some (.bool (bs.getD k false))

def tr (ks vs : List ByteArray) (bs : List Bool) (j : Nat) : Tr := ((ks.getD j ByteArray.empty).data.toList, (vs.getD j ByteArray.empty).data.toList, bs.getD j false)
def szs (ss : List ByteArray) (j : Nat) : Nat := (ss.getD j ByteArray.empty).size

theorem hasB_not {l : Bs} {c : UInt8} {n : Int} (h : hasB l n = false) (e : n = (c.toNat : Int)) : c ∉ l := by
  intro hc
  subst e
  unfold hasB at h
  rw [List.any_eq_false] at h
  exact h c hc (by simp)
theorem okT_bare {ks vs : List ByteArray} {bs : List Bool} {j : Nat} {x v : ByteArray} (ex : x = ks.getD j ByteArray.empty) (ev : v = vs.getD j ByteArray.empty) (eb : bs.getD j false = true)
    (h1 : hasB x.data.toList 61 = false) (h2 : hasB x.data.toList 44 = false) (h3 : hasB v.data.toList 44 = false) (h4 : v.data.toList.head? ≠ some 34) : okT (tr ks vs bs j) := by
  subst ex; subst ev
  refine ⟨hasB_not h1 rfl, hasB_not h2 rfl, ?_⟩
  show if bs.getD j false then _ else _
  rw [if_pos eb]
  exact ⟨hasB_not h3 rfl, h4⟩
theorem okT_quoted {ks vs : List ByteArray} {bs : List Bool} {j : Nat} {x v : ByteArray} (ex : x = ks.getD j ByteArray.empty) (ev : v = vs.getD j ByteArray.empty) (eb : bs.getD j false = false)
    (h1 : hasB x.data.toList 61 = false) (h2 : hasB x.data.toList 44 = false) (h3 : hasB v.data.toList 34 = false) : okT (tr ks vs bs j) := by
  subst ex; subst ev
  refine ⟨hasB_not h1 rfl, hasB_not h2 rfl, ?_⟩
  show if bs.getD j false then _ else _
  rw [if_neg (by rw [eb]; simp)]
  exact hasB_not h3 rfl
theorem head_empty {v : ByteArray} (h : ¬ 0 < v.size) : v.data.toList.head? ≠ some 34 := by
  have : v.data.toList = [] := List.eq_nil_of_length_eq_zero (by rw [size_list]; omega)
  rw [this]; simp
theorem head_other {v : ByteArray} (h : 0 < v.size) (h2 : ((v[0].toNat : Int) == 34) = false) : v.data.toList.head? ≠ some 34 := by
  intro e
  have e2 : v.data.toList.head? = some v[0] := by
    rw [List.head?_eq_getElem?, List.getElem?_eq_getElem (by rw [size_list]; exact h)]; rfl
  rw [e2] at e
  simp at e
  rw [e] at h2
  simp at h2
theorem tr_bare {ks vs : List ByteArray} {bs : List Bool} {j : Nat} {x v : ByteArray} (ex : x = ks.getD j ByteArray.empty) (ev : v = vs.getD j ByteArray.empty) (eb : true = bs.getD j false) :
    piece (tr ks vs bs j) = x.data.toList ++ [61] ++ v.data.toList := by
  subst ex; subst ev
  simp only [piece, tr, ← eb, if_true]
  simp
theorem tr_quoted {ks vs : List ByteArray} {bs : List Bool} {j : Nat} {x v : ByteArray} (ex : x = ks.getD j ByteArray.empty) (ev : v = vs.getD j ByteArray.empty) (eb : false = bs.getD j false) :
    piece (tr ks vs bs j) = x.data.toList ++ [61] ++ [34] ++ v.data.toList ++ [34] := by
  subst ex; subst ev
  simp only [piece, tr, ← eb]
  simp
theorem W_bound {ks vs : List ByteArray} {bs : List Bool} {k n sk sv : Nat} (hk : k ≤ n) (h1 : sk = sumTo (szs ks) n) (h2 : sv = sumTo (szs vs) n) : (W (tr ks vs bs) k).length ≤ 4 * n + sk + sv := by
  have := W_len (tr ks vs bs) k
  have e1 : (fun j => (tr ks vs bs j).1.length) = szs ks := by funext j; exact size_list _
  have e2 : (fun j => (tr ks vs bs j).2.1.length) = szs vs := by funext j; exact size_list _
  rw [e1, e2] at this
  have m1 := sumTo_mono (szs ks) hk
  have m2 := sumTo_mono (szs vs) hk
  omega
theorem Str_own {w : World} {base g n : Nat} {ss : List ByteArray} {xs : List Value} (h : w.ownsRow base 9 1 (.slice (some ⟨g, 0, none⟩) n n) n xs) (hn : ss.length = n) (hx : ∀ j, j < n → xs[j]? = some (.string (ss.getD j ByteArray.empty))) :
    Str w (some ⟨g, 0, none⟩) ss := by
  intro k hk
  refine ⟨g, 0, rfl, ?_⟩
  rw [Nat.zero_add, h.cellAt k (by omega)]
  exact hx k (by omega)
theorem Str.drewN {w : World} {ao : Option Addr} {ss : List ByteArray} (h : Str w ao ss) (n : Nat) : Str (w.drewN n) ao ss := h

theorem W_succ_at {f : Nat → Tr} {k : Nat} (h : k = 0) : W f (k + 1) = W f k ++ piece (f k) := by subst h; rw [W_succ0, W_zero]; rfl
theorem same_true2 (ax ay : Option Addr) (cx cy n1 n2 : Nat) (ss : List ByteArray) (h1 : ss.length = n1) (h2 : ss.length = n2) (hn : n1 ≤ 1048576) (w : World) (hx : Str w ax ss) (hy : Str w ay ss) :
    Calls Tryf.prog 11 #[.slice ax n1 cx, .slice ay n2 cy] w fun e w' => e = .returned (.bool true) ∧ ∃ n, w' = w.drewN n := by
  subst h1; subst h2
  exact same_true ax ay cx cy ss hn w hx hy
theorem eq_of_bne {a b : Nat} (h : ((a : Int) != b) = false) : a = b := by simp at h; omega
theorem ok_succ {p : Nat → Prop} {k : Nat} (h : ∀ j, j < k → p j) (hk : p k) : ∀ j, j < k + 1 → p j := by
  intro j hj
  by_cases e : j = k
  · rw [e]; exact hk
  · exact h j (by omega)

set_option linter.unusedSimpArgs false in
set_option maxRecDepth 100000 in
set_option maxHeartbeats 8000000 in
theorem back_any (ak av ab : Option Addr) (ck cv cb : Nat) (ks vs : List ByteArray) (bs : List Bool) (hk : ks.length ≤ maxLen) (hv : vs.length ≤ maxLen) (hb : bs.length ≤ maxLen)
    (hks : ∀ k, k < ks.length → (ks.getD k ByteArray.empty).size ≤ maxLen) (hvs : ∀ k, k < vs.length → (vs.getD k ByteArray.empty).size ≤ maxLen) (w : World)
    (hx : Str w ak ks) (hy : Str w av vs) (hz : Boo w ab bs) :
    Calls Tryf.prog 4 #[.slice ak ks.length ck, .slice av vs.length cv, .slice ab bs.length cb] w fun e w' => e = .returned (.bool true) ∧ Below w.heap.size w w' := by
  have HX : Hid (Str w ak ks) := hx
  have HY : Hid (Str w av vs) := hy
  have HZ : Hid (Boo w ab bs) := hz
  have HB9 := zzBytesR_any ak av ab ck cv bs.length cb ks vs hk hv hb hks hvs w hx hy
  have H9 : Hid (Calls Tryf.prog 9 #[.slice ak ks.length ck, .slice av vs.length cv, .slice ab bs.length cb] w fun e w' => IsBool e (Small ks ks.length ∧ Small vs vs.length) ∧ w' = w) := HB9
  clear hx hy hz hks hvs HB9
  unfold maxLen at hk hv hb
  obtain ⟨base, hbase⟩ : ∃ b, b = w.heap.size := ⟨_, rfl⟩
  rw [← hbase]
  have HBS : Hid (base = w.heap.size) := hbase
  clear hbase
  obtain ⟨i5, hi5, hz50, hz51, hz52⟩ := info_parts Tryf.info5
  go_enter Tryf.func4, Tryf.ntmps4
  go_wp2_with fail
  refine H9.out.mono ?_
  clear H9
  rintro e w1 ⟨⟨b9, rfl, hb9⟩, hw9⟩
  have hw8 := hw9.symm
  clear hw9
  subst hw8
  cases b9
  · clear hb9
    go_wp2
    go_ret
    exact ⟨rfl, Below.refl _ _⟩
  have HKS : Hid (Small ks ks.length) := (hb9 rfl).1
  have HVS : Hid (Small vs vs.length) := (hb9 rfl).2
  clear hb9
  by_cases l1 : (65536 : Int) < ks.length
  · go_wp2
    go_ret
    exact ⟨rfl, Below.refl _ _⟩
  by_cases l2 : (65536 : Int) < vs.length
  · go_wp2
    go_ret
    exact ⟨rfl, Below.refl _ _⟩
  by_cases l3 : (65536 : Int) < bs.length
  · go_wp2
    go_ret
    exact ⟨rfl, Below.refl _ _⟩
  by_cases l4 : (1048576 : Int) < bs.length + 16 * ks.length + 16 * vs.length
  · go_wp2
    go_ret
    exact ⟨rfl, Below.refl _ _⟩
  go_wp2
  go_loop [7, 8] (fun z i => ∃ (k : Nat), k ≤ ks.length ∧ i = .int .i64 k ∧ z = .int .i64 (bs.length + 16 * ks.length + 16 * vs.length + (sumTo (szs ks) k : Nat)) ∧ (bs.length : Int) + 16 * ks.length + 16 * vs.length + (sumTo (szs ks) k : Nat) ≤ 1048576) (fun _ i => ks.length - (intOf i).toNat)
  case atStart => exact ⟨0, Nat.zero_le _, rfl, by simp [sumTo], by simp [sumTo]; omega⟩
  case round =>
    obtain ⟨k, hkk, rfl, rfl, hbd⟩ := hrel
    by_cases hlt : k < ks.length
    · obtain ⟨b1, o1, rfl, c1⟩ := HX.out k hlt
      obtain ⟨x, hx⟩ : ∃ x, x = ks.getD k ByteArray.empty := ⟨_, rfl⟩
      have hxs := HKS.out k hlt
      have hsum : Hid (sumTo (szs ks) (k + 1) = sumTo (szs ks) k + x.size) := by rw [hx]; rfl
      rw [← hx] at c1 hxs
      clear hx
      obtain ⟨sm, hsm⟩ : ∃ s, s = sumTo (szs ks) k := ⟨_, rfl⟩
      rw [← hsm] at hbd ⊢
      have HSM : Hid (sm = sumTo (szs ks) k) := hsm
      clear hsm
      go_wp2
      · go_ret
        exact ⟨rfl, Below.refl _ _⟩
      · go_round
        case rel => exact ⟨k + 1, by omega, by go_num, by rw [hsum.out, ← HSM.out]; go_num, by rw [hsum.out, ← HSM.out]; push_cast; omega⟩
        case measure => simp [intOf]; omega
    · have hke : k = ks.length := by omega
      subst hke
      clear hlt hkk
      obtain ⟨sk, hsk⟩ : ∃ s, s = sumTo (szs ks) ks.length := ⟨_, rfl⟩
      rw [← hsk] at hbd ⊢
      have HSK : Hid (sk = sumTo (szs ks) ks.length) := hsk
      clear hsk
      go_wp2
      go_loop [7, 9] (fun z i => ∃ (k : Nat), k ≤ vs.length ∧ i = .int .i64 k ∧ z = .int .i64 (bs.length + 16 * ks.length + 16 * vs.length + sk + (sumTo (szs vs) k : Nat)) ∧ (bs.length : Int) + 16 * ks.length + 16 * vs.length + sk + (sumTo (szs vs) k : Nat) ≤ 1048576) (fun _ i => vs.length - (intOf i).toNat)
      case atStart => exact ⟨0, Nat.zero_le _, rfl, by simp [sumTo], by simp [sumTo]; omega⟩
      case round =>
        clear hbd
        obtain ⟨k, hkk, rfl, rfl, hbd⟩ := hrel
        by_cases hlt : k < vs.length
        · obtain ⟨b1, o1, rfl, c1⟩ := HY.out k hlt
          obtain ⟨x, hx⟩ : ∃ x, x = vs.getD k ByteArray.empty := ⟨_, rfl⟩
          have hxs := HVS.out k hlt
          have hsum : Hid (sumTo (szs vs) (k + 1) = sumTo (szs vs) k + x.size) := by rw [hx]; rfl
          rw [← hx] at c1 hxs
          clear hx
          obtain ⟨sm, hsm⟩ : ∃ s, s = sumTo (szs vs) k := ⟨_, rfl⟩
          rw [← hsm] at hbd ⊢
          have HSM : Hid (sm = sumTo (szs vs) k) := hsm
          clear hsm
          go_wp2
          · go_ret
            exact ⟨rfl, Below.refl _ _⟩
          · go_round
            case rel => exact ⟨k + 1, by omega, by go_num, by rw [hsum.out, ← HSM.out]; go_num, by rw [hsum.out, ← HSM.out]; push_cast; omega⟩
            case measure => simp [intOf]; omega
        · have hke : k = vs.length := by omega
          subst hke
          clear hlt hkk
          obtain ⟨sv, hsv⟩ : ∃ s, s = sumTo (szs vs) vs.length := ⟨_, rfl⟩
          rw [← hsv] at hbd ⊢
          have HSV : Hid (sv = sumTo (szs vs) vs.length) := hsv
          clear hsv
          cases hl5 : ((vs.length : Int) != ks.length)
          rotate_left
          · go_wp2
            go_ret
            exact ⟨rfl, Below.refl _ _⟩
          cases hl6 : ((bs.length : Int) != ks.length)
          rotate_left
          · go_wp2
            go_ret
            exact ⟨rfl, Below.refl _ _⟩
          have hn1 : Hid (vs.length = ks.length) := eq_of_bne hl5
          have hn2 : Hid (bs.length = ks.length) := eq_of_bne hl6
          have hle1 : ks.length ≤ vs.length := Nat.le_of_eq hn1.out.symm
          have hle2 : ks.length ≤ bs.length := Nat.le_of_eq hn2.out.symm
          go_wp2
          go_loop [10] (fun i => ∃ (k : Nat), k ≤ ks.length ∧ i = .int .i64 k ∧ Hid (∀ j, j < k → okT (tr ks vs bs j))) (fun i => ks.length - (intOf i).toNat)
          case atStart => exact ⟨0, Nat.zero_le _, rfl, fun j hj => absurd hj (by omega)⟩
          case round =>
            obtain ⟨k, hkk, rfl, hok⟩ := hrel
            by_cases hlt : k < ks.length
            · have hltv : k < vs.length := by omega
              have hltb : k < bs.length := by omega
              obtain ⟨b1, o1, rfl, c1⟩ := HX.out k hlt
              obtain ⟨b2, o2, rfl, c2⟩ := HY.out k hltv
              obtain ⟨b3, o3, rfl, c3⟩ := HZ.out k hltb
              obtain ⟨x, hx⟩ : ∃ x, x = ks.getD k ByteArray.empty := ⟨_, rfl⟩
              obtain ⟨v, hv⟩ : ∃ x, x = vs.getD k ByteArray.empty := ⟨_, rfl⟩
              obtain ⟨bb, hbb⟩ : ∃ x, x = bs.getD k false := ⟨_, rfl⟩
              have hxs := HKS.out k hlt
              have hvs := HVS.out k hltv
              rw [← hx] at c1 hxs
              rw [← hv] at c2 hvs
              rw [← hbb] at c3
              have HXE : Hid (x = ks.getD k ByteArray.empty) := hx
              have HVE : Hid (v = vs.getD k ByteArray.empty) := hv
              have HBE : Hid (bb = bs.getD k false) := hbb
              clear hx hv hbb
              go_wp2_with fail
              refine (hasByte_any x 61 hxs _).mono ?_
              rintro e w2 ⟨rfl, rfl⟩
              cases h61 : hasB x.data.toList 61
              rotate_left
              · go_wp2
                go_ret
                exact ⟨rfl, Below.refl _ _⟩
              go_wp2_with fail
              refine (hasByte_any x 44 hxs _).mono ?_
              rintro e w2 ⟨rfl, rfl⟩
              cases h44 : hasB x.data.toList 44
              rotate_left
              · go_wp2
                go_ret
                exact ⟨rfl, Below.refl _ _⟩
              cases bb
              · go_wp2_with fail
                refine (hasByte_any v 34 hvs _).mono ?_
                rintro e w2 ⟨rfl, rfl⟩
                cases h34 : hasB v.data.toList 34
                rotate_left
                · go_wp2
                  go_ret
                  exact ⟨rfl, Below.refl _ _⟩
                have HOK := okT_quoted HXE.out HVE.out HBE.out.symm h61 h44 h34
                have HOK1 : Hid (okT (tr ks vs bs k)) := HOK
                clear HOK
                go_wp2
                go_round
                case rel => exact ⟨k + 1, by omega, by go_num, ok_succ hok.out HOK1.out⟩
                case measure => simp [intOf]; omega
              · go_wp2_with fail
                refine (hasByte_any v 44 hvs _).mono ?_
                rintro e w2 ⟨rfl, rfl⟩
                cases h34 : hasB v.data.toList 44
                rotate_left
                · go_wp2
                  go_ret
                  exact ⟨rfl, Below.refl _ _⟩
                by_cases hv0 : 0 < v.size
                · cases hvq : ((v[0].toNat : Int) == 34)
                  rotate_left
                  · go_wp2
                    go_ret
                    exact ⟨rfl, Below.refl _ _⟩
                  have HOK1 : Hid (okT (tr ks vs bs k)) := okT_bare HXE.out HVE.out HBE.out.symm h61 h44 h34 (head_other hv0 hvq)
                  go_wp2
                  go_round
                  case rel => exact ⟨k + 1, by omega, by go_num, ok_succ hok.out HOK1.out⟩
                  case measure => simp [intOf]; omega
                · have HOK1 : Hid (okT (tr ks vs bs k)) := okT_bare HXE.out HVE.out HBE.out.symm h61 h44 h34 (head_empty hv0)
                  go_wp2
                  go_round
                  case rel => exact ⟨k + 1, by omega, by go_num, ok_succ hok.out HOK1.out⟩
                  case measure => simp [intOf]; omega
            · have HOK : Hid (∀ j, j < ks.length → okT (tr ks vs bs j)) := by have e : k = ks.length := by omega
                                                                              rw [← e]; exact hok
              clear hok
              go_wp2_with (at_make; refine wpList_make_own _ rfl _ _ 32 rfl base 5 i5 (.int .u8 0) 1 Tryf.underlying32 hi5 hz50 hz51 .i64 .i64 _ (bs.length + 16 * ks.length + 16 * vs.length + sk + sv + 4 * ks.length) rfl rfl (by push_cast; omega) (by rw [hz52]; omega) (by unfold maxLen; omega) (Nat.le_of_eq HBS.out) ?_)
              intro w1 ho1 hg1
              have HB0 : Hid (Buf base w w1 (.slice (some ⟨w.heap.size, 0, none⟩) 0 (bs.length + 16 * ks.length + 16 * vs.length + sk + sv + 4 * ks.length)) []) := ⟨ho1, (Below.refl base w).grown hg1 (Nat.le_of_eq HBS.out) (by simp), by have := hg1.size; have := HBS.out; omega⟩
              clear ho1 hg1
              go_wp2_with fail
              go_loopw [11, 12] (fun buf i wr => ∃ (k : Nat), k ≤ ks.length ∧ i = .int .i64 k ∧ Hid (Buf base w wr buf (W (tr ks vs bs) k))) (fun _ i _ => ks.length - (intOf i).toNat)
              case atStart => exact ⟨0, Nat.zero_le _, rfl, HB0⟩
              case round =>
                clear HB0
                obtain ⟨k, hkk, rfl, HB⟩ := hrel
                have hwl : (W (tr ks vs bs) k).length ≤ 4 * ks.length + sk + sv := W_bound hkk HSK.out (by rw [HSV.out, hn1.out])
                by_cases hlt : k < ks.length
                · have hltv : k < vs.length := by omega
                  have hltb : k < bs.length := by omega
                  obtain ⟨b1, o1, rfl, c1⟩ := HX.out k hlt
                  obtain ⟨b2, o2, rfl, c2⟩ := HY.out k hltv
                  obtain ⟨b3, o3, rfl, c3⟩ := HZ.out k hltb
                  obtain ⟨x, hx⟩ : ∃ x, x = ks.getD k ByteArray.empty := ⟨_, rfl⟩
                  obtain ⟨v, hv⟩ : ∃ x, x = vs.getD k ByteArray.empty := ⟨_, rfl⟩
                  obtain ⟨bb, hbb⟩ : ∃ x, x = bs.getD k false := ⟨_, rfl⟩
                  have hxs := HKS.out k hlt
                  have hvs := HVS.out k hltv
                  have hx1 : x.size ≤ sk := by rw [hx, HSK.out]; exact Nat.le_trans (Nat.le_add_left _ _) (sumTo_mono (szs ks) (show k + 1 ≤ ks.length from hlt))
                  have hv1 : v.size ≤ sv := by rw [hv, HSV.out]; exact Nat.le_trans (Nat.le_add_left _ _) (sumTo_mono (szs vs) (show k + 1 ≤ vs.length from hltv))
                  rw [← hx] at c1 hxs
                  rw [← hv] at c2 hvs
                  rw [← hbb] at c3
                  have HXE : Hid (x = ks.getD k ByteArray.empty) := hx
                  have HVE : Hid (v = vs.getD k ByteArray.empty) := hv
                  have HBE : Hid (bb = bs.getD k false) := hbb
                  clear hx hv hbb
                  have hsk1 : sk + sv + 4 * ks.length ≤ 1048576 := by omega
                  have hcw1 : wr.cell? ⟨b1, o1 + k, none⟩ = some (.string x) := cellW HB.out.2.1 HBS.out c1
                  have hcw2 : wr.cell? ⟨b2, o2 + k, none⟩ = some (.string v) := cellW HB.out.2.1 HBS.out c2
                  have hcw3 : wr.cell? ⟨b3, o3 + k, none⟩ = some (.bool bb) := cellW HB.out.2.1 HBS.out c3
                  by_cases hk0 : 0 < k
                  · cases bb
                    · skip
                      go_wp2_with (at_builtin; refine wp_app_byte rfl (.tmp 150) (.tmp 151) rfl HB.out 44 44 rfl rfl rfl (by first | omega | (simp only [cat_len, List.length_cons, List.length_nil, size_list]; omega)) ?_)
                      intro v1 w1 hBB
                      have HB1 : Hid (Buf base w w1 v1 (cat (W (tr ks vs bs) k) [44])) := hBB
                      clear hBB
                      have c1w1 : w1.cell? ⟨b1, o1 + k, none⟩ = some (.string x) := cellW HB1.out.2.1 HBS.out c1
                      have c2w1 : w1.cell? ⟨b2, o2 + k, none⟩ = some (.string v) := cellW HB1.out.2.1 HBS.out c2
                      have c3w1 : w1.cell? ⟨b3, o3 + k, none⟩ = some (.bool false) := cellW HB1.out.2.1 HBS.out c3
                      go_wp2_with (at_builtin; refine wp_app_str rfl (.tmp 153) (.tmp 157) rfl HB1.out x rfl rfl (by first | omega | (simp only [cat_len, List.length_cons, List.length_nil, size_list]; omega)) hxs ?_)
                      intro v2 w2 hBB
                      have HB2 : Hid (Buf base w w2 v2 (cat (cat (W (tr ks vs bs) k) [44]) x.data.toList)) := hBB
                      clear hBB
                      have c1w2 : w2.cell? ⟨b1, o1 + k, none⟩ = some (.string x) := cellW HB2.out.2.1 HBS.out c1
                      have c2w2 : w2.cell? ⟨b2, o2 + k, none⟩ = some (.string v) := cellW HB2.out.2.1 HBS.out c2
                      have c3w2 : w2.cell? ⟨b3, o3 + k, none⟩ = some (.bool false) := cellW HB2.out.2.1 HBS.out c3
                      go_wp2_with (at_builtin; refine wp_app_byte rfl (.tmp 159) (.tmp 160) rfl HB2.out 61 61 rfl rfl rfl (by first | omega | (simp only [cat_len, List.length_cons, List.length_nil, size_list]; omega)) ?_)
                      intro v3 w3 hBB
                      have HB3 : Hid (Buf base w w3 v3 (cat (cat (cat (W (tr ks vs bs) k) [44]) x.data.toList) [61])) := hBB
                      clear hBB
                      have c1w3 : w3.cell? ⟨b1, o1 + k, none⟩ = some (.string x) := cellW HB3.out.2.1 HBS.out c1
                      have c2w3 : w3.cell? ⟨b2, o2 + k, none⟩ = some (.string v) := cellW HB3.out.2.1 HBS.out c2
                      have c3w3 : w3.cell? ⟨b3, o3 + k, none⟩ = some (.bool false) := cellW HB3.out.2.1 HBS.out c3
                      go_wp2_with (at_builtin; refine wp_app_byte rfl (.tmp 172) (.tmp 173) rfl HB3.out 34 34 rfl rfl rfl (by first | omega | (simp only [cat_len, List.length_cons, List.length_nil, size_list]; omega)) ?_)
                      intro v4 w4 hBB
                      have HB4 : Hid (Buf base w w4 v4 (cat (cat (cat (cat (W (tr ks vs bs) k) [44]) x.data.toList) [61]) [34])) := hBB
                      clear hBB
                      have c1w4 : w4.cell? ⟨b1, o1 + k, none⟩ = some (.string x) := cellW HB4.out.2.1 HBS.out c1
                      have c2w4 : w4.cell? ⟨b2, o2 + k, none⟩ = some (.string v) := cellW HB4.out.2.1 HBS.out c2
                      have c3w4 : w4.cell? ⟨b3, o3 + k, none⟩ = some (.bool false) := cellW HB4.out.2.1 HBS.out c3
                      go_wp2_with (at_builtin; refine wp_app_str rfl (.tmp 175) (.tmp 179) rfl HB4.out v rfl rfl (by first | omega | (simp only [cat_len, List.length_cons, List.length_nil, size_list]; omega)) hvs ?_)
                      intro v5 w5 hBB
                      have HB5 : Hid (Buf base w w5 v5 (cat (cat (cat (cat (cat (W (tr ks vs bs) k) [44]) x.data.toList) [61]) [34]) v.data.toList)) := hBB
                      clear hBB
                      have c1w5 : w5.cell? ⟨b1, o1 + k, none⟩ = some (.string x) := cellW HB5.out.2.1 HBS.out c1
                      have c2w5 : w5.cell? ⟨b2, o2 + k, none⟩ = some (.string v) := cellW HB5.out.2.1 HBS.out c2
                      have c3w5 : w5.cell? ⟨b3, o3 + k, none⟩ = some (.bool false) := cellW HB5.out.2.1 HBS.out c3
                      go_wp2_with (at_builtin; refine wp_app_byte rfl (.tmp 181) (.tmp 182) rfl HB5.out 34 34 rfl rfl rfl (by first | omega | (simp only [cat_len, List.length_cons, List.length_nil, size_list]; omega)) ?_)
                      intro v6 w6 hBB
                      have HB6 : Hid (Buf base w w6 v6 (cat (cat (cat (cat (cat (cat (W (tr ks vs bs) k) [44]) x.data.toList) [61]) [34]) v.data.toList) [34])) := hBB
                      clear hBB
                      have c1w6 : w6.cell? ⟨b1, o1 + k, none⟩ = some (.string x) := cellW HB6.out.2.1 HBS.out c1
                      have c2w6 : w6.cell? ⟨b2, o2 + k, none⟩ = some (.string v) := cellW HB6.out.2.1 HBS.out c2
                      have c3w6 : w6.cell? ⟨b3, o3 + k, none⟩ = some (.bool false) := cellW HB6.out.2.1 HBS.out c3
                      go_wp2
                      go_roundw
                      case rel => exact ⟨k + 1, by omega, by go_num, by rw [show W (tr ks vs bs) (k + 1) = cat (cat (cat (cat (cat (cat (W (tr ks vs bs) k) [44]) x.data.toList) [61]) [34]) v.data.toList) [34] from by rw [W_succ _ k hk0, tr_quoted HXE.out HVE.out HBE.out]; simp [cat]]; exact HB6⟩
                      case measure => simp [intOf]; omega
                    · skip
                      go_wp2_with (at_builtin; refine wp_app_byte rfl (.tmp 150) (.tmp 151) rfl HB.out 44 44 rfl rfl rfl (by first | omega | (simp only [cat_len, List.length_cons, List.length_nil, size_list]; omega)) ?_)
                      intro v1 w1 hBB
                      have HB1 : Hid (Buf base w w1 v1 (cat (W (tr ks vs bs) k) [44])) := hBB
                      clear hBB
                      have c1w1 : w1.cell? ⟨b1, o1 + k, none⟩ = some (.string x) := cellW HB1.out.2.1 HBS.out c1
                      have c2w1 : w1.cell? ⟨b2, o2 + k, none⟩ = some (.string v) := cellW HB1.out.2.1 HBS.out c2
                      have c3w1 : w1.cell? ⟨b3, o3 + k, none⟩ = some (.bool true) := cellW HB1.out.2.1 HBS.out c3
                      go_wp2_with (at_builtin; refine wp_app_str rfl (.tmp 153) (.tmp 157) rfl HB1.out x rfl rfl (by first | omega | (simp only [cat_len, List.length_cons, List.length_nil, size_list]; omega)) hxs ?_)
                      intro v2 w2 hBB
                      have HB2 : Hid (Buf base w w2 v2 (cat (cat (W (tr ks vs bs) k) [44]) x.data.toList)) := hBB
                      clear hBB
                      have c1w2 : w2.cell? ⟨b1, o1 + k, none⟩ = some (.string x) := cellW HB2.out.2.1 HBS.out c1
                      have c2w2 : w2.cell? ⟨b2, o2 + k, none⟩ = some (.string v) := cellW HB2.out.2.1 HBS.out c2
                      have c3w2 : w2.cell? ⟨b3, o3 + k, none⟩ = some (.bool true) := cellW HB2.out.2.1 HBS.out c3
                      go_wp2_with (at_builtin; refine wp_app_byte rfl (.tmp 159) (.tmp 160) rfl HB2.out 61 61 rfl rfl rfl (by first | omega | (simp only [cat_len, List.length_cons, List.length_nil, size_list]; omega)) ?_)
                      intro v3 w3 hBB
                      have HB3 : Hid (Buf base w w3 v3 (cat (cat (cat (W (tr ks vs bs) k) [44]) x.data.toList) [61])) := hBB
                      clear hBB
                      have c1w3 : w3.cell? ⟨b1, o1 + k, none⟩ = some (.string x) := cellW HB3.out.2.1 HBS.out c1
                      have c2w3 : w3.cell? ⟨b2, o2 + k, none⟩ = some (.string v) := cellW HB3.out.2.1 HBS.out c2
                      have c3w3 : w3.cell? ⟨b3, o3 + k, none⟩ = some (.bool true) := cellW HB3.out.2.1 HBS.out c3
                      go_wp2_with (at_builtin; refine wp_app_str rfl (.tmp 166) (.tmp 170) rfl HB3.out v rfl rfl (by first | omega | (simp only [cat_len, List.length_cons, List.length_nil, size_list]; omega)) hvs ?_)
                      intro v4 w4 hBB
                      have HB4 : Hid (Buf base w w4 v4 (cat (cat (cat (cat (W (tr ks vs bs) k) [44]) x.data.toList) [61]) v.data.toList)) := hBB
                      clear hBB
                      have c1w4 : w4.cell? ⟨b1, o1 + k, none⟩ = some (.string x) := cellW HB4.out.2.1 HBS.out c1
                      have c2w4 : w4.cell? ⟨b2, o2 + k, none⟩ = some (.string v) := cellW HB4.out.2.1 HBS.out c2
                      have c3w4 : w4.cell? ⟨b3, o3 + k, none⟩ = some (.bool true) := cellW HB4.out.2.1 HBS.out c3
                      go_wp2
                      go_roundw
                      case rel => exact ⟨k + 1, by omega, by go_num, by rw [show W (tr ks vs bs) (k + 1) = cat (cat (cat (cat (W (tr ks vs bs) k) [44]) x.data.toList) [61]) v.data.toList from by rw [W_succ _ k hk0, tr_bare HXE.out HVE.out HBE.out]; simp [cat]]; exact HB4⟩
                      case measure => simp [intOf]; omega
                  · have hk1 : Hid (k = 0) := Nat.eq_zero_of_not_pos hk0
                    cases bb
                    · skip
                      go_wp2_with (at_builtin; refine wp_app_str rfl (.tmp 153) (.tmp 157) rfl HB.out x rfl rfl (by first | omega | (simp only [cat_len, List.length_cons, List.length_nil, size_list]; omega)) hxs ?_)
                      intro v1 w1 hBB
                      have HB1 : Hid (Buf base w w1 v1 (cat (W (tr ks vs bs) k) x.data.toList)) := hBB
                      clear hBB
                      have c1w1 : w1.cell? ⟨b1, o1 + k, none⟩ = some (.string x) := cellW HB1.out.2.1 HBS.out c1
                      have c2w1 : w1.cell? ⟨b2, o2 + k, none⟩ = some (.string v) := cellW HB1.out.2.1 HBS.out c2
                      have c3w1 : w1.cell? ⟨b3, o3 + k, none⟩ = some (.bool false) := cellW HB1.out.2.1 HBS.out c3
                      go_wp2_with (at_builtin; refine wp_app_byte rfl (.tmp 159) (.tmp 160) rfl HB1.out 61 61 rfl rfl rfl (by first | omega | (simp only [cat_len, List.length_cons, List.length_nil, size_list]; omega)) ?_)
                      intro v2 w2 hBB
                      have HB2 : Hid (Buf base w w2 v2 (cat (cat (W (tr ks vs bs) k) x.data.toList) [61])) := hBB
                      clear hBB
                      have c1w2 : w2.cell? ⟨b1, o1 + k, none⟩ = some (.string x) := cellW HB2.out.2.1 HBS.out c1
                      have c2w2 : w2.cell? ⟨b2, o2 + k, none⟩ = some (.string v) := cellW HB2.out.2.1 HBS.out c2
                      have c3w2 : w2.cell? ⟨b3, o3 + k, none⟩ = some (.bool false) := cellW HB2.out.2.1 HBS.out c3
                      go_wp2_with (at_builtin; refine wp_app_byte rfl (.tmp 172) (.tmp 173) rfl HB2.out 34 34 rfl rfl rfl (by first | omega | (simp only [cat_len, List.length_cons, List.length_nil, size_list]; omega)) ?_)
                      intro v3 w3 hBB
                      have HB3 : Hid (Buf base w w3 v3 (cat (cat (cat (W (tr ks vs bs) k) x.data.toList) [61]) [34])) := hBB
                      clear hBB
                      have c1w3 : w3.cell? ⟨b1, o1 + k, none⟩ = some (.string x) := cellW HB3.out.2.1 HBS.out c1
                      have c2w3 : w3.cell? ⟨b2, o2 + k, none⟩ = some (.string v) := cellW HB3.out.2.1 HBS.out c2
                      have c3w3 : w3.cell? ⟨b3, o3 + k, none⟩ = some (.bool false) := cellW HB3.out.2.1 HBS.out c3
                      go_wp2_with (at_builtin; refine wp_app_str rfl (.tmp 175) (.tmp 179) rfl HB3.out v rfl rfl (by first | omega | (simp only [cat_len, List.length_cons, List.length_nil, size_list]; omega)) hvs ?_)
                      intro v4 w4 hBB
                      have HB4 : Hid (Buf base w w4 v4 (cat (cat (cat (cat (W (tr ks vs bs) k) x.data.toList) [61]) [34]) v.data.toList)) := hBB
                      clear hBB
                      have c1w4 : w4.cell? ⟨b1, o1 + k, none⟩ = some (.string x) := cellW HB4.out.2.1 HBS.out c1
                      have c2w4 : w4.cell? ⟨b2, o2 + k, none⟩ = some (.string v) := cellW HB4.out.2.1 HBS.out c2
                      have c3w4 : w4.cell? ⟨b3, o3 + k, none⟩ = some (.bool false) := cellW HB4.out.2.1 HBS.out c3
                      go_wp2_with (at_builtin; refine wp_app_byte rfl (.tmp 181) (.tmp 182) rfl HB4.out 34 34 rfl rfl rfl (by first | omega | (simp only [cat_len, List.length_cons, List.length_nil, size_list]; omega)) ?_)
                      intro v5 w5 hBB
                      have HB5 : Hid (Buf base w w5 v5 (cat (cat (cat (cat (cat (W (tr ks vs bs) k) x.data.toList) [61]) [34]) v.data.toList) [34])) := hBB
                      clear hBB
                      have c1w5 : w5.cell? ⟨b1, o1 + k, none⟩ = some (.string x) := cellW HB5.out.2.1 HBS.out c1
                      have c2w5 : w5.cell? ⟨b2, o2 + k, none⟩ = some (.string v) := cellW HB5.out.2.1 HBS.out c2
                      have c3w5 : w5.cell? ⟨b3, o3 + k, none⟩ = some (.bool false) := cellW HB5.out.2.1 HBS.out c3
                      go_wp2
                      go_roundw
                      case rel => exact ⟨k + 1, by omega, by go_num, by rw [show W (tr ks vs bs) (k + 1) = cat (cat (cat (cat (cat (W (tr ks vs bs) k) x.data.toList) [61]) [34]) v.data.toList) [34] from by rw [W_succ_at hk1.out, tr_quoted HXE.out HVE.out HBE.out]; simp [cat]]; exact HB5⟩
                      case measure => simp [intOf]; omega
                    · skip
                      go_wp2_with (at_builtin; refine wp_app_str rfl (.tmp 153) (.tmp 157) rfl HB.out x rfl rfl (by first | omega | (simp only [cat_len, List.length_cons, List.length_nil, size_list]; omega)) hxs ?_)
                      intro v1 w1 hBB
                      have HB1 : Hid (Buf base w w1 v1 (cat (W (tr ks vs bs) k) x.data.toList)) := hBB
                      clear hBB
                      have c1w1 : w1.cell? ⟨b1, o1 + k, none⟩ = some (.string x) := cellW HB1.out.2.1 HBS.out c1
                      have c2w1 : w1.cell? ⟨b2, o2 + k, none⟩ = some (.string v) := cellW HB1.out.2.1 HBS.out c2
                      have c3w1 : w1.cell? ⟨b3, o3 + k, none⟩ = some (.bool true) := cellW HB1.out.2.1 HBS.out c3
                      go_wp2_with (at_builtin; refine wp_app_byte rfl (.tmp 159) (.tmp 160) rfl HB1.out 61 61 rfl rfl rfl (by first | omega | (simp only [cat_len, List.length_cons, List.length_nil, size_list]; omega)) ?_)
                      intro v2 w2 hBB
                      have HB2 : Hid (Buf base w w2 v2 (cat (cat (W (tr ks vs bs) k) x.data.toList) [61])) := hBB
                      clear hBB
                      have c1w2 : w2.cell? ⟨b1, o1 + k, none⟩ = some (.string x) := cellW HB2.out.2.1 HBS.out c1
                      have c2w2 : w2.cell? ⟨b2, o2 + k, none⟩ = some (.string v) := cellW HB2.out.2.1 HBS.out c2
                      have c3w2 : w2.cell? ⟨b3, o3 + k, none⟩ = some (.bool true) := cellW HB2.out.2.1 HBS.out c3
                      go_wp2_with (at_builtin; refine wp_app_str rfl (.tmp 166) (.tmp 170) rfl HB2.out v rfl rfl (by first | omega | (simp only [cat_len, List.length_cons, List.length_nil, size_list]; omega)) hvs ?_)
                      intro v3 w3 hBB
                      have HB3 : Hid (Buf base w w3 v3 (cat (cat (cat (W (tr ks vs bs) k) x.data.toList) [61]) v.data.toList)) := hBB
                      clear hBB
                      have c1w3 : w3.cell? ⟨b1, o1 + k, none⟩ = some (.string x) := cellW HB3.out.2.1 HBS.out c1
                      have c2w3 : w3.cell? ⟨b2, o2 + k, none⟩ = some (.string v) := cellW HB3.out.2.1 HBS.out c2
                      have c3w3 : w3.cell? ⟨b3, o3 + k, none⟩ = some (.bool true) := cellW HB3.out.2.1 HBS.out c3
                      go_wp2
                      go_roundw
                      case rel => exact ⟨k + 1, by omega, by go_num, by rw [show W (tr ks vs bs) (k + 1) = cat (cat (cat (W (tr ks vs bs) k) x.data.toList) [61]) v.data.toList from by rw [W_succ_at hk1.out, tr_bare HXE.out HVE.out HBE.out]; simp [cat]]; exact HB3⟩
                      case measure => simp [intOf]; omega
                · have e : k = ks.length := by omega
                  subst e
                  clear hlt hkk
                  have hcv := run_conv HB.out.1
                  obtain ⟨T, hT⟩ : ∃ T, T = W (tr ks vs bs) ks.length := ⟨_, rfl⟩
                  have HT : Hid (T = W (tr ks vs bs) ks.length) := hT
                  have HSP : Hid (splitL (B T).size (B T).data.toList [] = some ((List.range ks.length).map fun j => ((tr ks vs bs j).1, (tr ks vs bs j).2.1))) := by rw [B_size, B_list, hT]; exact split_W _ _ HOK.out
                  rw [← hT] at HB hcv hwl
                  have hTs : (B T).size ≤ 1048576 := by rw [B_size]; omega
                  clear hT
                  go_wp2_with fail
                  refine (zz_any (B T) hTs _).mono ?_
                  rintro e w2 ⟨hb2, hout⟩
                  have hb3 : Below base w w2 := HB.out.2.1.trans (hb2.mono HB.out.2.2)
                  have HX2 : Hid (Str w2 ak ks) := HX.out.below (by rw [← HBS.out]; exact hb3)
                  have HY2 : Hid (Str w2 av vs) := HY.out.below (by rw [← HBS.out]; exact hb3)
                  rcases hout with ⟨hr, _⟩ | ⟨hr, rfl⟩ | ⟨ps, gk, gv, hr, hp0, hpl, rfl, hok2, hov2⟩
                  · rw [HSP.out] at hr; simp at hr
                  · rw [HSP.out] at hr
                    have hk00 : ks.length = 0 := by simpa using hr
                    clear hr
                    have HX3 : Hid (Str w2 (Option.none : Option Addr) ks) := fun j hj => absurd hj (by omega)
                    have HY3 : Hid (Str w2 (Option.none : Option Addr) vs) := fun j hj => absurd hj (by rw [hn1.out]; omega)
                    have HK0 : Hid (ks.length = 0) := hk00
                    clear hk00
                    go_wp2_with fail
                    refine (same_true2 _ _ _ _ _ _ ks HK0.out rfl (by omega) _ HX3.out HX2.out).mono ?_
                    rintro e w3 ⟨rfl, n3, rfl⟩
                    go_wp2_with fail
                    refine (same_true2 _ _ _ _ _ _ vs (hn1.out.trans HK0.out) rfl (by omega) _ (HY3.out.drewN n3) (HY2.out.drewN n3)).mono ?_
                    rintro e w3 ⟨rfl, n4, rfl⟩
                    go_wp2
                    go_ret
                    exact ⟨rfl, below_drewN hb3 _⟩
                  · rw [HSP.out] at hr
                    have hpe : (List.range ks.length).map (fun j => ((tr ks vs bs j).1, (tr ks vs bs j).2.1)) = ps := Option.some.inj hr
                    have hpl2 : ps.length = ks.length := by rw [← hpe]; simp
                    have HX3 : Hid (Str w2 (some ⟨gk, 0, none⟩) ks) := Str_own hok2 hpl2.symm (fun j hj => by rw [← hpe]; simp [tr, B_of, (show j < ks.length from by omega)])
                    have HY3 : Hid (Str w2 (some ⟨gv, 0, none⟩) vs) := Str_own hov2 (hn1.out.trans hpl2.symm) (fun j hj => by rw [← hpe]; simp [tr, B_of, (show j < ks.length from by omega)])
                    have HP2 : Hid (ps.length = ks.length) := hpl2
                    clear hr hpe hpl2 hok2 hov2 hp0
                    go_wp2_with fail
                    refine (same_true2 _ _ _ _ _ _ ks HP2.out.symm rfl (by omega) _ HX3.out HX2.out).mono ?_
                    rintro e w3 ⟨rfl, n3, rfl⟩
                    go_wp2_with fail
                    refine (same_true2 _ _ _ _ _ _ vs (hn1.out.trans HP2.out.symm) rfl (by omega) _ (HY3.out.drewN n3) (HY2.out.drewN n3)).mono ?_
                    rintro e w3 ⟨rfl, n4, rfl⟩
                    go_wp2
                    go_ret
                    exact ⟨rfl, below_drewN hb3 _⟩

end Go.Proofs.Qxb6603723aFmt
