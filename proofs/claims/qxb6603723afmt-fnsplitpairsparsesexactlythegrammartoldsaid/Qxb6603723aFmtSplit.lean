/-
  scram.splitPairs computes splitL.
-/
import Derived.Test.Qxb6603723aFmtErr
import Derived.Test.Qxb6603723aFmtLib
import Derived.Test.Qxb6603723aFmtPlain
import Derived.WalkKit
import Derived.WalkSmall
namespace Go.Proofs.Qxb6603723aFmt
open Go.RowKit

theorem Tryf.info38 : (Tryf.prog.info? 38).map (fun i => (i.zero, i.size, i.bytes)) = some (some (.agg #[.string ⟨#[]⟩, .string ⟨#[]⟩]), 2, 32) := by kernel_rfl

def cellsOf (ps : List Pr) : List Value := ps.flatMap fun p => [.string (B p.1), .string (B p.2)]
theorem cellsOf_snoc (ps : List Pr) (k v : Bs) : cellsOf (ps ++ [(k, v)]) = cellsOf ps ++ [.string (B k), .string (B v)] := by simp [cellsOf]
def strLen : Value → Nat | .string s => s.size | _ => 0
theorem isE (l : Bs) : (B l).toList.isEmpty = l.isEmpty := by rw [ByteArray.toList_eq, B_list]

theorem cell_new1 (w : World) (v : Value) (t : TypeId) : (w.alloc (.cells #[v] t)).cell? ⟨w.heap.size, 0, none⟩ = some v := by simp

def SplitOut (base : Nat) (r : Option (List Pr)) (e : Ending) (w' : World) : Prop :=
  (r = none ∧ ∃ b, e = .returned (.tuple #[.slice none 0 0, .iface 52 (.pointer (some ⟨b, 0, none⟩))])) ∨
  (∃ ps v, r = some ps ∧ e = .returned (.tuple #[v, .nilIface]) ∧ w'.ownsRow base 38 2 v ps.length (cellsOf ps) ∧ (v = .slice none 0 0 ↔ ps = []) ∧ ps.length ≤ 1048576)

theorem split_err {f : Nat} {L : Bs} {acc : List Pr} {R : Option (List Pr)} (hne : L ≠ []) (hlf : L.length ≤ f) (hp : parse1 L = none) (hsp : splitL f L acc = R)
    {base : Nat} {w wr w1 w2 : World} (hbel : Below base w wr) (hz : base ≤ wr.heap.size) (h1 : Below wr.heap.size wr w1) (h2 : Below w1.heap.size w1 w2) (b : Nat) :
    Below base w w2 ∧ SplitOut base R (.returned (.tuple #[.slice none 0 0, .iface 52 (.pointer (some ⟨b, 0, none⟩))])) w2 := by
  have hz1 := h1.size
  refine ⟨(hbel.trans (h1.mono hz)).trans (h2.mono (by omega)), Or.inl ⟨?_, b, rfl⟩⟩
  rw [← hsp]
  exact splitL_none hne hlf hp

theorem rel_app {base : Nat} {w wr w1 : World} {u4 v' : Value} {acc : List Pr} {k v : Bs} {o : Obj} {m : Nat} (hzz : base ≤ wr.heap.size)
    (hown : wr.ownsRow base 38 2 u4 acc.length (cellsOf acc)) (hbel : Below base w wr)
    (hown' : w1.ownsRow base 38 2 v' (acc.length + 1) (cellsOf acc ++ [.string (B k), .string (B v)])) (hgrow : ((wr.drewN m).alloc o).grownBy w1 u4.ownBlock) :
    w1.ownsRow base 38 2 v' (acc ++ [(k, v)]).length (cellsOf (acc ++ [(k, v)])) ∧ Below base w w1 := by
  refine ⟨by rw [cellsOf_snoc]; simpa using hown', ?_⟩
  exact ((below_drewN hbel m).alloc (by simpa using hzz) o).grown hgrow (by simp; omega) (fun j hj => by have := (hown.lt j hj).1; omega)
theorem one2 (a b : ByteArray) : ∀ u ∈ [Value.string a, .string b], u.oneCell' = true := by
  intro u hu; simp at hu; rcases hu with rfl | rfl <;> rfl

set_option maxRecDepth 100000 in
set_option maxHeartbeats 4000000 in
theorem split_any (s : ByteArray) (hs : s.size ≤ 1048576) (w : World) :
    Calls Tryf.prog 12 #[.string s] w fun e w' => Below w.heap.size w w' ∧ SplitOut w.heap.size (splitL s.size s.data.toList []) e w' := by
  obtain ⟨base, hbase⟩ : ∃ b, b = w.heap.size := ⟨_, rfl⟩
  obtain ⟨R, hR⟩ : ∃ R, R = splitL s.size s.data.toList [] := ⟨_, rfl⟩
  rw [← hR, ← hbase]
  have HB : Hid (base = w.heap.size) := hbase
  have HR : Hid (R = splitL s.size s.data.toList []) := hR
  clear hR hbase
  obtain ⟨i0, hi, hz0, hz1, hz2⟩ := info_parts Tryf.info38
  go_enter Tryf.func12, Tryf.ntmps12
  go_wp2
  go_loopw [0, 4, 5] (fun sv ps n wr => ∃ (l : Bs) (acc : List Pr) (f : Nat), sv = .string (B l) ∧ l.length ≤ f ∧ acc.length + l.length ≤ 1048576 ∧ n = .int .i64 (acc.length + 1) ∧
      wr.ownsRow base 38 2 ps acc.length (cellsOf acc) ∧ (ps = .slice none 0 0 ↔ acc = []) ∧ Below base w wr ∧ Hid (splitL f l acc = R))
    (fun sv _ _ _ => strLen sv)
  case atStart => 
    exact ⟨s.data.toList, [], s.size, by rw [B_of], by rw [size_list]; omega, by rw [size_list]; simp; omega, rfl, World.ownsRow_nil _ _ _ _, by simp, Below.refl _ _, HR.out.symm⟩
  case round =>
    obtain ⟨l, acc, f, rfl, hlf, hbd, rfl, hown, hnil, hbel, hsp⟩ := hrel
    have hal : acc.length ≤ 1048576 := by omega
    have hzz : base ≤ wr.heap.size := by have := hbel.size; have := HB.out; omega
    by_cases hnl : l = []
    · subst hnl
      have hte : (B []).toList.isEmpty = true := isE []
      have HN : Hid (u4 = .slice none 0 0 ↔ acc = []) := hnil
      clear hnil
      go_wp2
      go_ret2
      exact ⟨hbel, Or.inr ⟨acc, _, by rw [← hsp.out]; exact splitL_nil _ _, rfl, hown, HN.out, hal⟩⟩
    · have hte : (B l).toList.isEmpty = false := by rw [isE]; simp [hnl]
      have HN : Hid (u4 = .slice none 0 0 ↔ acc = []) := hnil
      have HO : Hid (wr.ownsRow base 38 2 u4 acc.length (cellsOf acc)) := hown
      clear hnil hown
      rcases split_at l 61 with h61 | ⟨k, r, hL, hk⟩
      · go_wp2_with fail
        refine (cut_miss _ (by rw [B_list]; exact h61) _).mono ?_
        rintro e w1 ⟨rfl, n1, rfl⟩
        go_wp2_with fail
        refine (errorf1 (acc.length + 1) _ _ (by exact cell_new1 _ _ _)).mono ?_
        rintro e w1 ⟨⟨b, rfl⟩, hb⟩
        go_wp2
        go_ret2
        exact split_err hnl hlf (p_noeq h61) hsp.out hbel hzz ((below_drewN (Below.refl _ _) n1).alloc (Nat.le_refl _) _) hb b
      · have hlen : k.length + r.length + 1 = l.length := by rw [hL]; simp; omega
        have HL : Hid (l = k ++ 61 :: r) := hL
        clear hL
        go_wp2_with fail
        refine (cut_hit _ k r (by rw [B_list]; exact HL.out) hk (by rw [B_size]; omega) _).mono ?_
        rintro e w1 ⟨rfl, n1, rfl⟩
        rcases split_at k 44 with h44 | ⟨k1, k2, hK, hk1⟩
        rotate_left
        · have HK : Hid (k = k1 ++ 44 :: k2) := hK
          clear hK
          go_wp2_with fail
          refine (contains_hit _ k1 k2 (by rw [B_list]; exact HK.out) hk1 _).mono ?_
          rintro e w1 ⟨rfl, rfl⟩
          go_wp2_with fail
          refine (errorf1 (acc.length + 1) _ _ (by exact cell_new1 _ _ _)).mono ?_
          rintro e w1 ⟨⟨b, rfl⟩, hb⟩
          go_wp2
          go_ret2
          exact split_err hnl hlf (by rw [HL.out]; exact p_comma hk (by rw [HK.out]; simp)) hsp.out hbel hzz ((below_drewN (Below.refl _ _) n1).alloc (Nat.le_refl _) _) hb b
        go_wp2_with fail
        refine (contains_miss _ (by rw [B_list]; exact h44) _).mono ?_
        rintro e w1 ⟨rfl, rfl⟩
        go_wp2_with fail
        by_cases hq : ∃ q, r = 34 :: q
        · obtain ⟨q, hq⟩ := hq
          have HQ : Hid (r = 34 :: q) := hq
          have hlq : r.length = q.length + 1 := by rw [hq]; simp
          clear hq
          refine (cutPrefix_hit 34 _ q (by rw [B_list]; exact HQ.out) (by rw [B_size]; omega) _).mono ?_
          rintro e w1 ⟨rfl, rfl⟩
          rcases split_at q 34 with h34 | ⟨v, t, hV, hv⟩
          · have HI : Hid (Lib.indexByte (B q).data.toList 34 = -1) := by rw [B_list]; exact idx_none _ _ h34
            go_wp2_with fail
            refine (indexByte19 _ _ _).mono ?_
            rintro e w1 ⟨rfl, rfl⟩
            rw [show Lib.indexByte (B q).data.toList (34 : Int).toNat.toUInt8 = -1 from HI.out]
            go_wp2_with fail
            refine (errorf2 (acc.length + 1) _ _ (by exact cell_new1 _ _ _)).mono ?_
            rintro e w1 ⟨⟨b, rfl⟩, hb⟩
            go_wp2
            go_ret2
            exact split_err hnl hlf (by rw [HL.out, HQ.out]; exact p_open hk h44 h34) hsp.out hbel hzz ((below_drewN (Below.refl _ _) n1).alloc (Nat.le_refl _) _) hb b
          · have HV : Hid (q = v ++ 34 :: t) := hV
            have hlv : q.length = v.length + t.length + 1 := by rw [hV]; simp; omega
            have HI : Hid (Lib.indexByte (B q).data.toList 34 = (v.length : Int)) := by rw [B_list, hV]; exact idx_some _ _ _ hv
            clear hV
            obtain ⟨i, hi0⟩ : ∃ i, i = v.length := ⟨_, rfl⟩
            have HJ : Hid (Lib.indexByte (B q).data.toList 34 = (i : Int)) := by rw [hi0]; exact HI
            have HE : Hid (i = v.length) := hi0
            have hsz : (B q).size = q.length := B_size q
            have c1 : (0 : Int) ≤ ↑i := by omega
            have c2 : (↑i : Int) + 1 ≤ ↑(B q).size := by omega
            have c3 : i ≤ (B q).size := by omega
            have c4 : (↑i : Int) ≤ ↑(B q).size := by omega
            have c5 : (0 : Int) ≤ ↑i + 1 := by omega
            have c6 : (B q).size ≤ 1048576 := by omega
            clear hi0 hsz HI
            go_wp2_with fail
            refine (indexByte19 _ _ _).mono ?_
            rintro e w1 ⟨rfl, rfl⟩
            rw [show Lib.indexByte (B q).data.toList (34 : Int).toNat.toUInt8 = (i : Int) from HJ.out]
            go_wp2_with fail
            go_region
            rw [show (B q).extract 0 i = B v from by rw [ext_take, B_list, HV.out, HE.out]; simp]
            rw [show (B q).extract (i + 1) (B q).size = B t from by rw [ext_drop, B_list, HV.out, HE.out]; simp]
            have HPQ : Hid (l = k ++ 61 :: 34 :: (v ++ 34 :: t)) := by rw [HL.out, HQ.out, HV.out]; rfl
            have hlt : (B t).size ≤ 1048576 := by rw [B_size]; omega
            have htl : t.length < l.length := by omega
            clear c1 c2 c3 c4 c5 c6 HJ HE HV HQ HL hlq hlv hlen
            cases t with
            | nil =>
              have ht0 : (B []).toList.isEmpty = true := isE []
              go_wp2_with fail
              refine (cutPrefix_miss 44 _ (by rw [B_list]; simp) _).mono ?_
              rintro e w1 ⟨rfl, rfl⟩
              go_wp2_with (at_builtin; refine wpList_append_own _ rfl _ _ 34 rfl base 38 i0 (.agg #[.string ⟨#[]⟩, .string ⟨#[]⟩]) 2 32 Tryf.underlying34 hi hz0 hz1 hz2 rfl (by decide) _ _ _ rfl (World.ownsRow.alloc (w := wr.drewN _) HO.out _) ⟨wr.heap.size, 0, none⟩ 1 1 [.string (B k), .string (B v)] rfl rfl (cell_two_new (wr.drewN _) _ _ _) (one2 _ _) (by unfold maxLen; omega) (by omega) (by simp; omega) ?_)
              intro v' w1 hown' hgrow hni
              have HN1 : Hid (v' = .slice none 0 0 ↔ acc ++ [(k, v)] = []) := ⟨fun h => by simp [h] at hni, fun h => by simp at h⟩
              have HR1 : Hid (w1.ownsRow base 38 2 v' (acc ++ [(k, v)]).length (cellsOf (acc ++ [(k, v)])) ∧ Below base w w1) := rel_app hzz HO.out hbel hown' hgrow
              have HP : Hid (parse1 l = some (k, v, [])) := by rw [HPQ.out]; exact p_qend hk h44 hv
              have hul : List.length ([] : Bs) < l.length := by simp at htl ⊢; omega
              clear hown' hgrow hni
              go_wp2
              go_roundw
              case rel => exact ⟨[], acc ++ [(k, v)], f - 1, rfl, by omega, by simp; omega, by simp, HR1.out.1, HN1.out, HR1.out.2, by rw [← hsp.out]; exact (splitL_some hnl hlf HP.out).symm⟩
              case measure => simp only [strLen, B_size]; omega
            | cons x u =>
              have ht0 : (B (x :: u)).toList.isEmpty = false := isE _
              have ht1 : 0 < (B (x :: u)).size := by rw [B_size]; simp
              have ht2 : (B (x :: u))[0] = x := rfl
              have hul0 : u.length < l.length := by simp at htl; omega
              by_cases hx : x = 44
              · subst hx
                go_wp2_with fail
                refine (cutPrefix_hit 44 _ u (by rw [B_list]) hlt _).mono ?_
                rintro e w1 ⟨rfl, rfl⟩
                clear ht0 ht1 ht2 htl
                by_cases hu : u = []
                · subst hu
                  have hu0 : (B []).toList.isEmpty = true := isE []
                  go_wp2_with fail
                  refine (errorf4 (acc.length + 1) _ _ (by exact cell_new1 _ _ _)).mono ?_
                  rintro e w1 ⟨⟨b, rfl⟩, hb⟩
                  go_wp2
                  go_ret2
                  exact split_err hnl hlf (by rw [HPQ.out]; exact p_qcomma hk h44 hv) hsp.out hbel hzz ((below_drewN (Below.refl _ _) _).alloc (Nat.le_refl _) _) hb b
                · have hu0 : (B u).toList.isEmpty = false := by rw [isE]; simp [hu]
                  go_wp2_with (at_builtin; refine wpList_append_own _ rfl _ _ 34 rfl base 38 i0 (.agg #[.string ⟨#[]⟩, .string ⟨#[]⟩]) 2 32 Tryf.underlying34 hi hz0 hz1 hz2 rfl (by decide) _ _ _ rfl (World.ownsRow.alloc (w := wr.drewN _) HO.out _) ⟨wr.heap.size, 0, none⟩ 1 1 [.string (B k), .string (B v)] rfl rfl (cell_two_new (wr.drewN _) _ _ _) (one2 _ _) (by unfold maxLen; omega) (by omega) (by simp; omega) ?_)
                  intro v' w1 hown' hgrow hni
                  have HN1 : Hid (v' = .slice none 0 0 ↔ acc ++ [(k, v)] = []) := ⟨fun h => by simp [h] at hni, fun h => by simp at h⟩
                  have HR1 : Hid (w1.ownsRow base 38 2 v' (acc ++ [(k, v)]).length (cellsOf (acc ++ [(k, v)])) ∧ Below base w w1) := rel_app hzz HO.out hbel hown' hgrow
                  have HP : Hid (parse1 l = some (k, v, u)) := by rw [HPQ.out]; exact p_qnext hk h44 hv hu
                  have hul : u.length < l.length := hul0
                  clear hown' hgrow hni
                  go_wp2
                  go_roundw
                  case rel => exact ⟨u, acc ++ [(k, v)], f - 1, rfl, by omega, by simp; omega, by simp, HR1.out.1, HN1.out, HR1.out.2, by rw [← hsp.out]; exact (splitL_some hnl hlf HP.out).symm⟩
                  case measure => simp only [strLen, B_size]; omega
              · have hx2 : ((x.toNat : Int) != 44) = true := by
                  simp; intro e; apply hx; apply UInt8.toNat_inj.1; show x.toNat = 44; omega
                go_wp2_with fail
                refine (errorf3 (acc.length + 1) _ _ (by exact cell_new1 _ _ _)).mono ?_
                rintro e w1 ⟨⟨b, rfl⟩, hb⟩
                go_wp2
                go_ret2
                exact split_err hnl hlf (by rw [HPQ.out]; exact p_qjunk hk h44 hv hx) hsp.out hbel hzz ((below_drewN (Below.refl _ _) _).alloc (Nat.le_refl _) _) hb b
        · have hq' : ∀ q, r ≠ 34 :: q := fun q e => hq ⟨q, e⟩
          have HQ : Hid (∀ q, r ≠ 34 :: q) := hq'
          clear hq hq'
          refine (cutPrefix_miss 34 _ (by rw [B_list]; exact HQ.out) _).mono ?_
          rintro e w1 ⟨rfl, rfl⟩
          rcases split_at r 44 with hr44 | ⟨v, u, hV, hv⟩
          · have HI : Hid (Lib.indexByte (B r).data.toList 44 = -1) := by rw [B_list]; exact idx_none _ _ hr44
            have hlr : (B r).size ≤ 1048576 := by rw [B_size]; omega
            go_wp2_with fail
            refine (indexByte19 _ _ _).mono ?_
            rintro e w1 ⟨rfl, rfl⟩
            rw [show Lib.indexByte (B r).data.toList (44 : Int).toNat.toUInt8 = -1 from HI.out]
            go_wp2_with fail
            go_region
            rw [show ByteArray.empty = B [] from rfl]
            have hul1 : 0 < l.length := by omega
            clear hlr hlen
            go_wp2_with fail
            refine (cutPrefix_miss 44 _ (by rw [B_list]; simp) _).mono ?_
            rintro e w1 ⟨rfl, rfl⟩
            go_wp2_with (at_builtin; refine wpList_append_own _ rfl _ _ 34 rfl base 38 i0 (.agg #[.string ⟨#[]⟩, .string ⟨#[]⟩]) 2 32 Tryf.underlying34 hi hz0 hz1 hz2 rfl (by decide) _ _ _ rfl (World.ownsRow.alloc (w := wr.drewN _) HO.out _) ⟨wr.heap.size, 0, none⟩ 1 1 [.string (B k), .string (B r)] rfl rfl (cell_two_new (wr.drewN _) _ _ _) (one2 _ _) (by unfold maxLen; omega) (by omega) (by simp; omega) ?_)
            intro v' w1 hown' hgrow hni
            have HN1 : Hid (v' = .slice none 0 0 ↔ acc ++ [(k, r)] = []) := ⟨fun h => by simp [h] at hni, fun h => by simp at h⟩
            have HR1 : Hid (w1.ownsRow base 38 2 v' (acc ++ [(k, r)]).length (cellsOf (acc ++ [(k, r)])) ∧ Below base w w1) := rel_app hzz HO.out hbel hown' hgrow
            have HP : Hid (parse1 l = some (k, r, [])) := by rw [HL.out]; exact p_bend hk h44 HQ.out hr44
            have hul : List.length ([] : Bs) < l.length := by simpa using hul1
            clear hown' hgrow hni
            go_wp2
            go_roundw
            case rel => exact ⟨[], acc ++ [(k, r)], f - 1, rfl, by omega, by simp; omega, by simp, HR1.out.1, HN1.out, HR1.out.2, by rw [← hsp.out]; exact (splitL_some hnl hlf HP.out).symm⟩
            case measure => simp only [strLen, B_size]; omega
          · have HV : Hid (r = v ++ 44 :: u) := hV
            have hlv : r.length = v.length + u.length + 1 := by rw [hV]; simp; omega
            have HI : Hid (Lib.indexByte (B r).data.toList 44 = (v.length : Int)) := by rw [B_list, hV]; exact idx_some _ _ _ hv
            clear hV
            obtain ⟨i, hi0⟩ : ∃ i, i = v.length := ⟨_, rfl⟩
            have HJ : Hid (Lib.indexByte (B r).data.toList 44 = (i : Int)) := by rw [hi0]; exact HI
            have HE : Hid (i = v.length) := hi0
            have hsz : (B r).size = r.length := B_size r
            have c1 : (0 : Int) ≤ ↑i := by omega
            have c2 : (↑i : Int) + 1 ≤ ↑(B r).size := by omega
            have c3 : i ≤ (B r).size := by omega
            have c4 : (↑i : Int) ≤ ↑(B r).size := by omega
            have c6 : (B r).size ≤ 1048576 := by omega
            have hul1 : u.length < l.length := by omega
            have hlt : (B (44 :: u)).size ≤ 1048576 := by rw [B_size]; simp; omega
            clear hi0 hsz HI
            go_wp2_with fail
            refine (indexByte19 _ _ _).mono ?_
            rintro e w1 ⟨rfl, rfl⟩
            rw [show Lib.indexByte (B r).data.toList (44 : Int).toNat.toUInt8 = (i : Int) from HJ.out]
            go_wp2_with fail
            go_region
            rw [show (B r).extract 0 i = B v from by rw [ext_take, B_list, HV.out, HE.out]; simp]
            rw [show (B r).extract i (B r).size = B (44 :: u) from by rw [ext_drop, B_list, HV.out, HE.out]; simp]
            have HPQ : Hid (l = k ++ 61 :: (v ++ 44 :: u)) := by rw [HL.out, HV.out]; rfl
            have HQ2 : Hid (∀ q, v ++ 44 :: u ≠ 34 :: q) := by rw [← HV.out]; exact HQ.out
            clear c1 c2 c3 c4 c6 HJ HE HV HQ HL hlv hlen
            go_wp2_with fail
            refine (cutPrefix_hit 44 _ u (by rw [B_list]) hlt _).mono ?_
            rintro e w1 ⟨rfl, rfl⟩
            clear hlt
            by_cases hu : u = []
            · subst hu
              have hu0 : (B []).toList.isEmpty = true := isE []
              go_wp2_with fail
              refine (errorf4 (acc.length + 1) _ _ (by exact cell_new1 _ _ _)).mono ?_
              rintro e w1 ⟨⟨b, rfl⟩, hb⟩
              go_wp2
              go_ret2
              exact split_err hnl hlf (by rw [HPQ.out]; exact p_bcomma hk h44 HQ2.out hv) hsp.out hbel hzz ((below_drewN (Below.refl _ _) _).alloc (Nat.le_refl _) _) hb b
            · have hu0 : (B u).toList.isEmpty = false := by rw [isE]; simp [hu]
              go_wp2_with (at_builtin; refine wpList_append_own _ rfl _ _ 34 rfl base 38 i0 (.agg #[.string ⟨#[]⟩, .string ⟨#[]⟩]) 2 32 Tryf.underlying34 hi hz0 hz1 hz2 rfl (by decide) _ _ _ rfl (World.ownsRow.alloc (w := wr.drewN _) HO.out _) ⟨wr.heap.size, 0, none⟩ 1 1 [.string (B k), .string (B v)] rfl rfl (cell_two_new (wr.drewN _) _ _ _) (one2 _ _) (by unfold maxLen; omega) (by omega) (by simp; omega) ?_)
              intro v' w1 hown' hgrow hni
              have HN1 : Hid (v' = .slice none 0 0 ↔ acc ++ [(k, v)] = []) := ⟨fun h => by simp [h] at hni, fun h => by simp at h⟩
              have HR1 : Hid (w1.ownsRow base 38 2 v' (acc ++ [(k, v)]).length (cellsOf (acc ++ [(k, v)])) ∧ Below base w w1) := rel_app hzz HO.out hbel hown' hgrow
              have HP : Hid (parse1 l = some (k, v, u)) := by rw [HPQ.out]; exact p_bnext hk h44 HQ2.out hv hu
              have hul : u.length < l.length := hul1
              clear hown' hgrow hni
              go_wp2
              go_roundw
              case rel => exact ⟨u, acc ++ [(k, v)], f - 1, rfl, by omega, by simp; omega, by simp, HR1.out.1, HN1.out, HR1.out.2, by rw [← hsp.out]; exact (splitL_some hnl hlf HP.out).symm⟩
              case measure => simp only [strLen, B_size]; omega

end Go.Proofs.Qxb6603723aFmt
