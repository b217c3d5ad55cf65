/-
  isWritingOf answers true on the writing itself.
-/
import Derived.Test.Qxb6603723aFmtAuto
namespace Go.Proofs.Qxb6603723aFmt
open Go.RowKit

theorem get_at (s : ByteArray) (a : Bs) (c : UInt8) (b : Bs) (i : Nat) (h : s.data.toList = a ++ c :: b) (hi : a.length = i) (hlt : i < s.size) : s[i] = c := by
  subst hi
  have e1 : s.data.toList[a.length]? = some s[a.length] := by rw [List.getElem?_eq_getElem (by rw [size_list]; exact hlt)]; rfl
  rw [h, List.getElem?_append_right (by omega)] at e1
  simp at e1
  exact e1.symm

theorem W_split (f : Nat → Tr) (k : Nat) : ∀ (d : Nat), ∃ rest, W f (k + 1 + d) = W f (k + 1) ++ rest ∧ (rest = [] ∨ ∃ u, rest = 44 :: u)
  | 0 => ⟨[], by simp, Or.inl rfl⟩
  | d + 1 => by
    obtain ⟨rest, h1, h2⟩ := W_split f k d
    refine ⟨rest ++ 44 :: piece (f (k + 1 + d)), ?_, ?_⟩
    · rw [show k + 1 + (d + 1) = (k + 1 + d) + 1 from by omega, W_succ f (k + 1 + d) (by omega), h1, List.append_assoc]
    · rcases h2 with rfl | ⟨u, rfl⟩
      · exact Or.inr ⟨_, rfl⟩
      · exact Or.inr ⟨u ++ 44 :: piece (f (k + 1 + d)), rfl⟩

def Str2 (w : World) (ao : Option Addr) (n : Nat) (g : Nat → Bs) : Prop :=
  ∀ k, k < n → ∃ b off, ao = some ⟨b, off, none⟩ ∧ w.cell? ⟨b, off + k, none⟩ = some (.string (B (g k)))

theorem hasAt_at (s t : ByteArray) (hs : s.size ≤ 1048576) (q : Int) (x y : Bs) (h : s.data.toList = x ++ (t.data.toList ++ y)) (hp : q = (x.length : Int)) (w : World) :
    Calls Tryf.prog 14 #[.string s, .int .i64 q, .string t] w fun e w' => e = .returned (.bool true) ∧ ∃ n, w' = w.drewN n := by
  subst hp
  exact hasAt_true s t hs x.length x y h rfl w

theorem hasB_of_not {l : Bs} {c : UInt8} (h : c ∉ l) : hasB l (c.toNat : Int) = false := by
  unfold hasB
  rw [List.any_eq_false]
  intro b hb
  simp
  intro e
  exact h (by have : b = c := UInt8.toNat_inj.1 (by omega)
              rw [← this]; exact hb)

theorem round_facts (s : ByteArray) (f : Nat → Tr) (n k : Nat) (h : s.data.toList = W f n) (hlt : k < n) (hs : s.size ≤ 1048576) :
    ∃ (x v : ByteArray) (b : Bool) (rest : Bs), f k = (x.data.toList, v.data.toList, b) ∧ (rest = [] ∨ ∃ u, rest = 44 :: u) ∧ x.size ≤ 1048576 ∧ v.size ≤ 1048576 ∧
      s.data.toList = W f k ++ ((if k = 0 then [] else [44]) ++ (piece (x.data.toList, v.data.toList, b) ++ rest)) ∧
      (W f (k + 1)).length = (W f k).length + (if k = 0 then 0 else 1) + (piece (x.data.toList, v.data.toList, b)).length := by
  obtain ⟨rest, hr1, hr2⟩ := W_split f k (n - (k + 1))
  rw [show k + 1 + (n - (k + 1)) = n from by omega, ← h] at hr1
  refine ⟨B (f k).1, B (f k).2.1, (f k).2.2, rest, by rw [B_list, B_list], hr2, ?_, ?_, ?_, ?_⟩
  · rw [B_size]
    have := size_list s; rw [hr1] at this
    by_cases hk : k = 0
    · subst hk; rw [W_succ0] at this; simp [piece] at this; omega
    · rw [W_succ f k (by omega)] at this; simp [piece] at this; omega
  · rw [B_size]
    have := size_list s; rw [hr1] at this
    by_cases hk : k = 0
    · subst hk; rw [W_succ0] at this
      by_cases hb : (f 0).2.2 <;> simp [piece, hb] at this <;> omega
    · rw [W_succ f k (by omega)] at this
      by_cases hb : (f k).2.2 <;> simp [piece, hb] at this <;> omega
  · rw [B_list, B_list, hr1]
    by_cases hk : k = 0
    · subst hk; rw [W_succ0, W_zero]; simp
    · rw [W_succ f k (by omega), if_neg hk]; simp
  · rw [B_list, B_list]
    by_cases hk : k = 0
    · subst hk; rw [W_succ0, W_zero]; simp
    · rw [W_succ f k (by omega), if_neg hk]
      show _ = _ + 1 + (piece (f k)).length
      simp; omega
theorem app_one (a : Bs) (c : UInt8) (b : Bs) : a ++ [c] ++ b = a ++ c :: b := by simp

set_option linter.unusedSimpArgs false in
set_option maxRecDepth 100000 in
set_option maxHeartbeats 8000000 in
theorem writing_true (s : ByteArray) (f : Nat → Tr) (n : Nat) (hn : n ≤ 1048576) (hs : s.size ≤ 1048576) (h : s.data.toList = W f n) (ho : ∀ j, j < n → okT (f j))
    (ak av : Option Addr) (ck cv : Nat) (w : World) (hx : Str2 w ak n (fun j => (f j).1)) (hy : Str2 w av n (fun j => (f j).2.1)) :
    Calls Tryf.prog 8 #[.string s, .slice ak n ck, .slice av n cv] w fun e w' => e = .returned (.bool true) ∧ ∃ m, w' = w.drewN m := by
  have HS : Hid (s.data.toList = W f n) := h
  have HO : Hid (∀ j, j < n → okT (f j)) := ho
  have HX : Hid (Str2 w ak n (fun j => (f j).1)) := hx
  have HY : Hid (Str2 w av n (fun j => (f j).2.1)) := hy
  clear h ho hx hy
  go_enter Tryf.func8, Tryf.ntmps8
  go_wp2
  go_loopw [7, 8] (fun pos i wr => ∃ k m p : Nat, k ≤ n ∧ i = .int .i64 k ∧ pos = .int .i64 p ∧ Hid (p = (W f k).length) ∧ wr = w.drewN m) (fun _ i _ => n - (intOf i).toNat)
  case atStart => exact ⟨0, 0, 0, Nat.zero_le _, rfl, rfl, rfl, rfl⟩
  case round =>
    obtain ⟨k, m, p, hk, rfl, rfl, hp, rfl⟩ := hrel
    by_cases hlt : k < n
    · obtain ⟨b1, o1, rfl, c1⟩ := HX.out k hlt
      obtain ⟨b2, o2, rfl, c2⟩ := HY.out k hlt
      obtain ⟨x, v, b, rest, hf, hrest, hxs, hvs, htx, hln⟩ := round_facts s f n k HS.out hlt hs
      have hok := HO.out k hlt
      rw [hf] at hok
      obtain ⟨ok1, ok2, ok3⟩ := hok
      have c1' : w.cell? ⟨b1, o1 + k, none⟩ = some (.string x) := by rw [c1]; show some (Value.string (B (f k).1)) = _; rw [hf, B_of]
      have c2' : w.cell? ⟨b2, o2 + k, none⟩ = some (.string v) := by rw [c2]; show some (Value.string (B (f k).2.1)) = _; rw [hf, B_of]
      clear c1 c2 hf
      obtain ⟨A, hA⟩ : ∃ A, A = W f k := ⟨_, rfl⟩
      have hpA : Hid (A.length = p) := by rw [hA]; exact hp.out.symm
      rw [← hA] at htx hln
      have HTX0 : Hid (s.data.toList = A ++ ((if k = 0 then [] else [44]) ++ (piece (x.data.toList, v.data.toList, b) ++ rest))) := htx
      have HLN0 : Hid ((W f (k + 1)).length = p + (if k = 0 then 0 else 1) + (piece (x.data.toList, v.data.toList, b)).length) := by rw [hln, hpA.out]; rfl
      clear htx hln hA
      by_cases hk0 : 0 < k
      · have HTX1 : Hid (s.data.toList = A ++ ([44] ++ (piece (x.data.toList, v.data.toList, b) ++ rest))) := by have := HTX0.out; rw [if_neg (by omega)] at this; exact this
        have HLN1 : Hid ((W f (k + 1)).length = p + 1 + (piece (x.data.toList, v.data.toList, b)).length) := by have := HLN0.out; rw [if_neg (by omega)] at this; exact this
        clear HTX0 HLN0
        cases b
        · have okq : 34 ∉ v.data.toList := ok3
          clear ok3 hrest
          have HTX := HTX1
          have HLN := HLN1
          clear HTX1 HLN1
          -- k > 0 q
          have HT : Hid (s.data.toList = A ++ 44 :: (x.data.toList ++ 61 :: 34 :: (v.data.toList ++ 34 :: rest))) := by show s.data.toList = _; rw [HTX.out]; simp [piece]
          have hsz := size_list s
          rw [HT.out] at hsz
          simp only [List.length_append, List.length_cons, size_list, hpA.out] at hsz
          have hle : p + 1 + x.size + 1 + (1 + v.size) + 1 ≤ s.size := by omega
          have HWL : Hid ((W f (k + 1)).length = p + 1 + x.size + 1 + (1 + v.size) + 1) := by show (W f (k + 1)).length = _; rw [HLN.out]; simp [piece, size_list]; try omega
          have li1 : p < s.size := by omega
          have i1 : s[p] = 44 := get_at s (A) 44 ((x.data.toList ++ 61 :: 34 :: (v.data.toList ++ 34 :: rest))) _ (by rw [HT.out]; try simp) (by simp [size_list, hpA.out]; try omega) li1
          have li2 : p + 1 + x.size < s.size := by omega
          have i2 : s[p + 1 + x.size] = 61 := get_at s ((A ++ [44]) ++ x.data.toList) 61 (34 :: (v.data.toList ++ 34 :: rest)) _ (by rw [HT.out]; try simp) (by simp [size_list, hpA.out]; try omega) li2
          have li3 : p + 1 + x.size + 1 < s.size := by omega
          have i3 : s[p + 1 + x.size + 1] = 34 := get_at s ((A ++ [44]) ++ x.data.toList ++ [61]) 34 (v.data.toList ++ 34 :: rest) _ (by rw [HT.out]; try simp) (by simp [size_list, hpA.out]; try omega) li3
          have li4 : p + 1 + x.size + 1 + (1 + v.size) < s.size := by omega
          have i4 : s[p + 1 + x.size + 1 + (1 + v.size)] = 34 := get_at s ((A ++ [44]) ++ x.data.toList ++ [61] ++ [34] ++ v.data.toList) 34 (rest) _ (by rw [HT.out]; try simp) (by simp [size_list, hpA.out]; try omega) li4
          clear hsz HTX HLN
          go_wp2_with fail
          refine (hasByte_any x 61 hxs _).mono ?_
          rintro e w1 ⟨rfl, rfl⟩
          rw [show hasB x.data.toList 61 = false from hasB_of_not (c := 61) ok1]
          go_wp2_with fail
          refine (hasByte_any x 44 hxs _).mono ?_
          rintro e w1 ⟨rfl, rfl⟩
          rw [show hasB x.data.toList 44 = false from hasB_of_not (c := 44) ok2]
          go_wp2_with fail
          refine (hasAt_at s x hs _ (A ++ [44]) (61 :: 34 :: (v.data.toList ++ 34 :: rest)) (by rw [HT.out]; try simp) (by simp [size_list, hpA.out]) _).mono ?_
          rintro e w1 ⟨rfl, m1, rfl⟩
          go_wp2_with fail
          refine (hasByte_any v 34 hvs _).mono ?_
          rintro e w1 ⟨rfl, rfl⟩
          rw [show hasB v.data.toList 34 = false from hasB_of_not (c := 34) okq]
          go_wp2_with fail
          refine (hasAt_at s v hs _ ((A ++ [44]) ++ x.data.toList ++ [61] ++ [34]) (34 :: rest) (by rw [HT.out]; try simp) (by simp [size_list, hpA.out]; try omega) _).mono ?_
          rintro e w1 ⟨rfl, m2, rfl⟩
          go_wp2
          go_roundw
          case rel => exact ⟨k + 1, _, p + 1 + x.size + 1 + (1 + v.size) + 1, by omega, by go_num, by go_num, HWL.out.symm, rfl⟩
          case measure => simp [intOf]; omega
        · have okb : 44 ∉ v.data.toList := ok3.1
          have hh : v.data.toList.head? ≠ some 34 := ok3.2
          have HTX := HTX1
          have HLN := HLN1
          clear ok3 HTX1 HLN1
          by_cases hv00 : 0 < v.size
          · have HV0 : Hid (0 < v.size) := hv00
            clear hv00 hrest
            -- k > 0 b1
            have HT : Hid (s.data.toList = A ++ 44 :: (x.data.toList ++ 61 :: (v.data.toList ++ rest))) := by show s.data.toList = _; rw [HTX.out]; simp [piece]
            have hsz := size_list s
            rw [HT.out] at hsz
            simp only [List.length_append, List.length_cons, size_list, hpA.out] at hsz
            have hle : p + 1 + x.size + 1 + v.size ≤ s.size := by omega
            have HWL : Hid ((W f (k + 1)).length = p + 1 + x.size + 1 + v.size) := by show (W f (k + 1)).length = _; rw [HLN.out]; simp [piece, size_list]; try omega
            have li1 : p < s.size := by omega
            have i1 : s[p] = 44 := get_at s (A) 44 ((x.data.toList ++ 61 :: (v.data.toList ++ rest))) _ (by rw [HT.out]; try simp) (by simp [size_list, hpA.out]; try omega) li1
            have li2 : p + 1 + x.size < s.size := by omega
            have i2 : s[p + 1 + x.size] = 61 := get_at s ((A ++ [44]) ++ x.data.toList) 61 (v.data.toList ++ rest) _ (by rw [HT.out]; try simp) (by simp [size_list, hpA.out]; try omega) li2
            have hv0 : 0 < v.size := HV0.out
            have li3 : p + 1 + x.size + 1 < s.size := by omega
            have HV1 : Hid (∃ V', v.data.toList = v[0] :: V') := by
              have e2 : v.data.toList[0]? = some v[0] := by rw [List.getElem?_eq_getElem (by rw [size_list]; exact hv0)]; rfl
              cases hvv : v.data.toList with
              | nil => rw [hvv] at e2; simp at e2
              | cons a V' => rw [hvv] at e2; simp at e2; exact ⟨V', by rw [e2]⟩
            have hvq : ((v[0].toNat : Int) == 34) = false := by
              obtain ⟨V', hV'⟩ := HV1.out
              rw [hV'] at hh
              simp at hh ⊢
              intro e; exact hh (UInt8.toNat_inj.1 (by show v[0].toNat = 34; omega))
            have i3 : s[p + 1 + x.size + 1] = v[0] := by
              obtain ⟨V', hV'⟩ := HV1.out
              exact get_at s ((A ++ [44]) ++ x.data.toList ++ [61]) v[0] (V' ++ rest) _ (by rw [HT.out, hV']; simp) (by simp [size_list, hpA.out]; try omega) li3
            clear hsz HTX HLN
            go_wp2_with fail
            refine (hasByte_any x 61 hxs _).mono ?_
            rintro e w1 ⟨rfl, rfl⟩
            rw [show hasB x.data.toList 61 = false from hasB_of_not (c := 61) ok1]
            go_wp2_with fail
            refine (hasByte_any x 44 hxs _).mono ?_
            rintro e w1 ⟨rfl, rfl⟩
            rw [show hasB x.data.toList 44 = false from hasB_of_not (c := 44) ok2]
            go_wp2_with fail
            refine (hasAt_at s x hs _ (A ++ [44]) (61 :: (v.data.toList ++ rest)) (by rw [HT.out]; try simp) (by simp [size_list, hpA.out]) _).mono ?_
            rintro e w1 ⟨rfl, m1, rfl⟩
            go_wp2_with fail
            refine (hasByte_any v 44 hvs _).mono ?_
            rintro e w1 ⟨rfl, rfl⟩
            rw [show hasB v.data.toList 44 = false from hasB_of_not (c := 44) okb]
            go_wp2_with fail
            refine (hasAt_at s v hs _ ((A ++ [44]) ++ x.data.toList ++ [61]) rest (by rw [HT.out]; try simp) (by simp [size_list, hpA.out]; try omega) _).mono ?_
            rintro e w1 ⟨rfl, m2, rfl⟩
            go_wp2
            go_roundw
            case rel => exact ⟨k + 1, _, p + 1 + x.size + 1 + v.size, by omega, by go_num, by go_num, HWL.out.symm, rfl⟩
            case measure => simp [intOf]; omega
          · have HV0 : Hid (¬ 0 < v.size) := hv00
            clear hv00 hh
            rcases hrest with hR | ⟨u, hR⟩
            · have HR : Hid (rest = []) := hR
              clear hR
              -- k > 0 b2
              have HT : Hid (s.data.toList = A ++ 44 :: (x.data.toList ++ 61 :: (v.data.toList ++ rest))) := by show s.data.toList = _; rw [HTX.out]; simp [piece]
              have hsz := size_list s
              rw [HT.out] at hsz
              simp only [List.length_append, List.length_cons, size_list, hpA.out] at hsz
              have hle : p + 1 + x.size + 1 + v.size ≤ s.size := by omega
              have HWL : Hid ((W f (k + 1)).length = p + 1 + x.size + 1 + v.size) := by show (W f (k + 1)).length = _; rw [HLN.out]; simp [piece, size_list]; try omega
              have li1 : p < s.size := by omega
              have i1 : s[p] = 44 := get_at s (A) 44 ((x.data.toList ++ 61 :: (v.data.toList ++ rest))) _ (by rw [HT.out]; try simp) (by simp [size_list, hpA.out]; try omega) li1
              have li2 : p + 1 + x.size < s.size := by omega
              have i2 : s[p + 1 + x.size] = 61 := get_at s ((A ++ [44]) ++ x.data.toList) 61 (v.data.toList ++ rest) _ (by rw [HT.out]; try simp) (by simp [size_list, hpA.out]; try omega) li2
              have hv0 : ¬ 0 < v.size := HV0.out
              have hend : s.size ≤ p + 1 + x.size + 1 := by rw [HR.out] at hsz; simp at hsz; omega
              clear hsz HTX HLN
              go_wp2_with fail
              refine (hasByte_any x 61 hxs _).mono ?_
              rintro e w1 ⟨rfl, rfl⟩
              rw [show hasB x.data.toList 61 = false from hasB_of_not (c := 61) ok1]
              go_wp2_with fail
              refine (hasByte_any x 44 hxs _).mono ?_
              rintro e w1 ⟨rfl, rfl⟩
              rw [show hasB x.data.toList 44 = false from hasB_of_not (c := 44) ok2]
              go_wp2_with fail
              refine (hasAt_at s x hs _ (A ++ [44]) (61 :: (v.data.toList ++ rest)) (by rw [HT.out]; try simp) (by simp [size_list, hpA.out]) _).mono ?_
              rintro e w1 ⟨rfl, m1, rfl⟩
              go_wp2_with fail
              refine (hasByte_any v 44 hvs _).mono ?_
              rintro e w1 ⟨rfl, rfl⟩
              rw [show hasB v.data.toList 44 = false from hasB_of_not (c := 44) okb]
              go_wp2_with fail
              refine (hasAt_at s v hs _ ((A ++ [44]) ++ x.data.toList ++ [61]) rest (by rw [HT.out]; try simp) (by simp [size_list, hpA.out]; try omega) _).mono ?_
              rintro e w1 ⟨rfl, m2, rfl⟩
              go_wp2
              go_roundw
              case rel => exact ⟨k + 1, _, p + 1 + x.size + 1 + v.size, by omega, by go_num, by go_num, HWL.out.symm, rfl⟩
              case measure => simp [intOf]; omega
            · have HR : Hid (rest = 44 :: u) := hR
              clear hR
              -- k > 0 b3
              have HT : Hid (s.data.toList = A ++ 44 :: (x.data.toList ++ 61 :: (v.data.toList ++ rest))) := by show s.data.toList = _; rw [HTX.out]; simp [piece]
              have hsz := size_list s
              rw [HT.out] at hsz
              simp only [List.length_append, List.length_cons, size_list, hpA.out] at hsz
              have hle : p + 1 + x.size + 1 + v.size ≤ s.size := by omega
              have HWL : Hid ((W f (k + 1)).length = p + 1 + x.size + 1 + v.size) := by show (W f (k + 1)).length = _; rw [HLN.out]; simp [piece, size_list]; try omega
              have li1 : p < s.size := by omega
              have i1 : s[p] = 44 := get_at s (A) 44 ((x.data.toList ++ 61 :: (v.data.toList ++ rest))) _ (by rw [HT.out]; try simp) (by simp [size_list, hpA.out]; try omega) li1
              have li2 : p + 1 + x.size < s.size := by omega
              have i2 : s[p + 1 + x.size] = 61 := get_at s ((A ++ [44]) ++ x.data.toList) 61 (v.data.toList ++ rest) _ (by rw [HT.out]; try simp) (by simp [size_list, hpA.out]; try omega) li2
              have hv0 : ¬ 0 < v.size := HV0.out
              have hrl : 1 ≤ rest.length := by rw [HR.out]; simp
              have li3 : p + 1 + x.size + 1 < s.size := by omega
              have i3 : s[p + 1 + x.size + 1] = 44 := get_at s ((A ++ [44]) ++ x.data.toList ++ [61]) 44 u _ (by rw [HT.out, HR.out, show v.data.toList = [] from List.eq_nil_of_length_eq_zero (by rw [size_list]; omega)]; simp) (by simp [size_list, hpA.out]; try omega) li3
              clear hrl
              clear hsz HTX HLN
              go_wp2_with fail
              refine (hasByte_any x 61 hxs _).mono ?_
              rintro e w1 ⟨rfl, rfl⟩
              rw [show hasB x.data.toList 61 = false from hasB_of_not (c := 61) ok1]
              go_wp2_with fail
              refine (hasByte_any x 44 hxs _).mono ?_
              rintro e w1 ⟨rfl, rfl⟩
              rw [show hasB x.data.toList 44 = false from hasB_of_not (c := 44) ok2]
              go_wp2_with fail
              refine (hasAt_at s x hs _ (A ++ [44]) (61 :: (v.data.toList ++ rest)) (by rw [HT.out]; try simp) (by simp [size_list, hpA.out]) _).mono ?_
              rintro e w1 ⟨rfl, m1, rfl⟩
              go_wp2_with fail
              refine (hasByte_any v 44 hvs _).mono ?_
              rintro e w1 ⟨rfl, rfl⟩
              rw [show hasB v.data.toList 44 = false from hasB_of_not (c := 44) okb]
              go_wp2_with fail
              refine (hasAt_at s v hs _ ((A ++ [44]) ++ x.data.toList ++ [61]) rest (by rw [HT.out]; try simp) (by simp [size_list, hpA.out]; try omega) _).mono ?_
              rintro e w1 ⟨rfl, m2, rfl⟩
              go_wp2
              go_roundw
              case rel => exact ⟨k + 1, _, p + 1 + x.size + 1 + v.size, by omega, by go_num, by go_num, HWL.out.symm, rfl⟩
              case measure => simp [intOf]; omega
      · have HTX1 : Hid (s.data.toList = A ++ (piece (x.data.toList, v.data.toList, b) ++ rest)) := by have := HTX0.out; rw [if_pos (by omega)] at this; exact this
        have HLN1 : Hid ((W f (k + 1)).length = p + (piece (x.data.toList, v.data.toList, b)).length) := by have := HLN0.out; rw [if_pos (by omega)] at this; exact this
        clear HTX0 HLN0
        cases b
        · have okq : 34 ∉ v.data.toList := ok3
          clear ok3 hrest
          have HTX := HTX1
          have HLN := HLN1
          clear HTX1 HLN1
          -- k = 0 q
          have HT : Hid (s.data.toList = A ++ (x.data.toList ++ 61 :: 34 :: (v.data.toList ++ 34 :: rest))) := by show s.data.toList = _; rw [HTX.out]; simp [piece]
          have hsz := size_list s
          rw [HT.out] at hsz
          simp only [List.length_append, List.length_cons, size_list, hpA.out] at hsz
          have hle : p + x.size + 1 + (1 + v.size) + 1 ≤ s.size := by omega
          have HWL : Hid ((W f (k + 1)).length = p + x.size + 1 + (1 + v.size) + 1) := by show (W f (k + 1)).length = _; rw [HLN.out]; simp [piece, size_list]; try omega
          have li2 : p + x.size < s.size := by omega
          have i2 : s[p + x.size] = 61 := get_at s (A ++ x.data.toList) 61 (34 :: (v.data.toList ++ 34 :: rest)) _ (by rw [HT.out]; try simp) (by simp [size_list, hpA.out]; try omega) li2
          have li3 : p + x.size + 1 < s.size := by omega
          have i3 : s[p + x.size + 1] = 34 := get_at s (A ++ x.data.toList ++ [61]) 34 (v.data.toList ++ 34 :: rest) _ (by rw [HT.out]; try simp) (by simp [size_list, hpA.out]; try omega) li3
          have li4 : p + x.size + 1 + (1 + v.size) < s.size := by omega
          have i4 : s[p + x.size + 1 + (1 + v.size)] = 34 := get_at s (A ++ x.data.toList ++ [61] ++ [34] ++ v.data.toList) 34 (rest) _ (by rw [HT.out]; try simp) (by simp [size_list, hpA.out]; try omega) li4
          clear hsz HTX HLN
          go_wp2_with fail
          refine (hasByte_any x 61 hxs _).mono ?_
          rintro e w1 ⟨rfl, rfl⟩
          rw [show hasB x.data.toList 61 = false from hasB_of_not (c := 61) ok1]
          go_wp2_with fail
          refine (hasByte_any x 44 hxs _).mono ?_
          rintro e w1 ⟨rfl, rfl⟩
          rw [show hasB x.data.toList 44 = false from hasB_of_not (c := 44) ok2]
          go_wp2_with fail
          refine (hasAt_at s x hs _ A (61 :: 34 :: (v.data.toList ++ 34 :: rest)) (by rw [HT.out]; try simp) (by simp [size_list, hpA.out]) _).mono ?_
          rintro e w1 ⟨rfl, m1, rfl⟩
          go_wp2_with fail
          refine (hasByte_any v 34 hvs _).mono ?_
          rintro e w1 ⟨rfl, rfl⟩
          rw [show hasB v.data.toList 34 = false from hasB_of_not (c := 34) okq]
          go_wp2_with fail
          refine (hasAt_at s v hs _ (A ++ x.data.toList ++ [61] ++ [34]) (34 :: rest) (by rw [HT.out]; try simp) (by simp [size_list, hpA.out]; try omega) _).mono ?_
          rintro e w1 ⟨rfl, m2, rfl⟩
          go_wp2
          go_roundw
          case rel => exact ⟨k + 1, _, p + x.size + 1 + (1 + v.size) + 1, by omega, by go_num, by go_num, HWL.out.symm, rfl⟩
          case measure => simp [intOf]; omega
        · have okb : 44 ∉ v.data.toList := ok3.1
          have hh : v.data.toList.head? ≠ some 34 := ok3.2
          have HTX := HTX1
          have HLN := HLN1
          clear ok3 HTX1 HLN1
          by_cases hv00 : 0 < v.size
          · have HV0 : Hid (0 < v.size) := hv00
            clear hv00 hrest
            -- k = 0 b1
            have HT : Hid (s.data.toList = A ++ (x.data.toList ++ 61 :: (v.data.toList ++ rest))) := by show s.data.toList = _; rw [HTX.out]; simp [piece]
            have hsz := size_list s
            rw [HT.out] at hsz
            simp only [List.length_append, List.length_cons, size_list, hpA.out] at hsz
            have hle : p + x.size + 1 + v.size ≤ s.size := by omega
            have HWL : Hid ((W f (k + 1)).length = p + x.size + 1 + v.size) := by show (W f (k + 1)).length = _; rw [HLN.out]; simp [piece, size_list]; try omega
            have li2 : p + x.size < s.size := by omega
            have i2 : s[p + x.size] = 61 := get_at s (A ++ x.data.toList) 61 (v.data.toList ++ rest) _ (by rw [HT.out]; try simp) (by simp [size_list, hpA.out]; try omega) li2
            have hv0 : 0 < v.size := HV0.out
            have li3 : p + x.size + 1 < s.size := by omega
            have HV1 : Hid (∃ V', v.data.toList = v[0] :: V') := by
              have e2 : v.data.toList[0]? = some v[0] := by rw [List.getElem?_eq_getElem (by rw [size_list]; exact hv0)]; rfl
              cases hvv : v.data.toList with
              | nil => rw [hvv] at e2; simp at e2
              | cons a V' => rw [hvv] at e2; simp at e2; exact ⟨V', by rw [e2]⟩
            have hvq : ((v[0].toNat : Int) == 34) = false := by
              obtain ⟨V', hV'⟩ := HV1.out
              rw [hV'] at hh
              simp at hh ⊢
              intro e; exact hh (UInt8.toNat_inj.1 (by show v[0].toNat = 34; omega))
            have i3 : s[p + x.size + 1] = v[0] := by
              obtain ⟨V', hV'⟩ := HV1.out
              exact get_at s (A ++ x.data.toList ++ [61]) v[0] (V' ++ rest) _ (by rw [HT.out, hV']; simp) (by simp [size_list, hpA.out]; try omega) li3
            clear hsz HTX HLN
            go_wp2_with fail
            refine (hasByte_any x 61 hxs _).mono ?_
            rintro e w1 ⟨rfl, rfl⟩
            rw [show hasB x.data.toList 61 = false from hasB_of_not (c := 61) ok1]
            go_wp2_with fail
            refine (hasByte_any x 44 hxs _).mono ?_
            rintro e w1 ⟨rfl, rfl⟩
            rw [show hasB x.data.toList 44 = false from hasB_of_not (c := 44) ok2]
            go_wp2_with fail
            refine (hasAt_at s x hs _ A (61 :: (v.data.toList ++ rest)) (by rw [HT.out]; try simp) (by simp [size_list, hpA.out]) _).mono ?_
            rintro e w1 ⟨rfl, m1, rfl⟩
            go_wp2_with fail
            refine (hasByte_any v 44 hvs _).mono ?_
            rintro e w1 ⟨rfl, rfl⟩
            rw [show hasB v.data.toList 44 = false from hasB_of_not (c := 44) okb]
            go_wp2_with fail
            refine (hasAt_at s v hs _ (A ++ x.data.toList ++ [61]) rest (by rw [HT.out]; try simp) (by simp [size_list, hpA.out]; try omega) _).mono ?_
            rintro e w1 ⟨rfl, m2, rfl⟩
            go_wp2
            go_roundw
            case rel => exact ⟨k + 1, _, p + x.size + 1 + v.size, by omega, by go_num, by go_num, HWL.out.symm, rfl⟩
            case measure => simp [intOf]; omega
          · have HV0 : Hid (¬ 0 < v.size) := hv00
            clear hv00 hh
            rcases hrest with hR | ⟨u, hR⟩
            · have HR : Hid (rest = []) := hR
              clear hR
              -- k = 0 b2
              have HT : Hid (s.data.toList = A ++ (x.data.toList ++ 61 :: (v.data.toList ++ rest))) := by show s.data.toList = _; rw [HTX.out]; simp [piece]
              have hsz := size_list s
              rw [HT.out] at hsz
              simp only [List.length_append, List.length_cons, size_list, hpA.out] at hsz
              have hle : p + x.size + 1 + v.size ≤ s.size := by omega
              have HWL : Hid ((W f (k + 1)).length = p + x.size + 1 + v.size) := by show (W f (k + 1)).length = _; rw [HLN.out]; simp [piece, size_list]; try omega
              have li2 : p + x.size < s.size := by omega
              have i2 : s[p + x.size] = 61 := get_at s (A ++ x.data.toList) 61 (v.data.toList ++ rest) _ (by rw [HT.out]; try simp) (by simp [size_list, hpA.out]; try omega) li2
              have hv0 : ¬ 0 < v.size := HV0.out
              have hend : s.size ≤ p + x.size + 1 := by rw [HR.out] at hsz; simp at hsz; omega
              clear hsz HTX HLN
              go_wp2_with fail
              refine (hasByte_any x 61 hxs _).mono ?_
              rintro e w1 ⟨rfl, rfl⟩
              rw [show hasB x.data.toList 61 = false from hasB_of_not (c := 61) ok1]
              go_wp2_with fail
              refine (hasByte_any x 44 hxs _).mono ?_
              rintro e w1 ⟨rfl, rfl⟩
              rw [show hasB x.data.toList 44 = false from hasB_of_not (c := 44) ok2]
              go_wp2_with fail
              refine (hasAt_at s x hs _ A (61 :: (v.data.toList ++ rest)) (by rw [HT.out]; try simp) (by simp [size_list, hpA.out]) _).mono ?_
              rintro e w1 ⟨rfl, m1, rfl⟩
              go_wp2_with fail
              refine (hasByte_any v 44 hvs _).mono ?_
              rintro e w1 ⟨rfl, rfl⟩
              rw [show hasB v.data.toList 44 = false from hasB_of_not (c := 44) okb]
              go_wp2_with fail
              refine (hasAt_at s v hs _ (A ++ x.data.toList ++ [61]) rest (by rw [HT.out]; try simp) (by simp [size_list, hpA.out]; try omega) _).mono ?_
              rintro e w1 ⟨rfl, m2, rfl⟩
              go_wp2
              go_roundw
              case rel => exact ⟨k + 1, _, p + x.size + 1 + v.size, by omega, by go_num, by go_num, HWL.out.symm, rfl⟩
              case measure => simp [intOf]; omega
            · have HR : Hid (rest = 44 :: u) := hR
              clear hR
              -- k = 0 b3
              have HT : Hid (s.data.toList = A ++ (x.data.toList ++ 61 :: (v.data.toList ++ rest))) := by show s.data.toList = _; rw [HTX.out]; simp [piece]
              have hsz := size_list s
              rw [HT.out] at hsz
              simp only [List.length_append, List.length_cons, size_list, hpA.out] at hsz
              have hle : p + x.size + 1 + v.size ≤ s.size := by omega
              have HWL : Hid ((W f (k + 1)).length = p + x.size + 1 + v.size) := by show (W f (k + 1)).length = _; rw [HLN.out]; simp [piece, size_list]; try omega
              have li2 : p + x.size < s.size := by omega
              have i2 : s[p + x.size] = 61 := get_at s (A ++ x.data.toList) 61 (v.data.toList ++ rest) _ (by rw [HT.out]; try simp) (by simp [size_list, hpA.out]; try omega) li2
              have hv0 : ¬ 0 < v.size := HV0.out
              have hrl : 1 ≤ rest.length := by rw [HR.out]; simp
              have li3 : p + x.size + 1 < s.size := by omega
              have i3 : s[p + x.size + 1] = 44 := get_at s (A ++ x.data.toList ++ [61]) 44 u _ (by rw [HT.out, HR.out, show v.data.toList = [] from List.eq_nil_of_length_eq_zero (by rw [size_list]; omega)]; simp) (by simp [size_list, hpA.out]; try omega) li3
              clear hrl
              clear hsz HTX HLN
              go_wp2_with fail
              refine (hasByte_any x 61 hxs _).mono ?_
              rintro e w1 ⟨rfl, rfl⟩
              rw [show hasB x.data.toList 61 = false from hasB_of_not (c := 61) ok1]
              go_wp2_with fail
              refine (hasByte_any x 44 hxs _).mono ?_
              rintro e w1 ⟨rfl, rfl⟩
              rw [show hasB x.data.toList 44 = false from hasB_of_not (c := 44) ok2]
              go_wp2_with fail
              refine (hasAt_at s x hs _ A (61 :: (v.data.toList ++ rest)) (by rw [HT.out]; try simp) (by simp [size_list, hpA.out]) _).mono ?_
              rintro e w1 ⟨rfl, m1, rfl⟩
              go_wp2_with fail
              refine (hasByte_any v 44 hvs _).mono ?_
              rintro e w1 ⟨rfl, rfl⟩
              rw [show hasB v.data.toList 44 = false from hasB_of_not (c := 44) okb]
              go_wp2_with fail
              refine (hasAt_at s v hs _ (A ++ x.data.toList ++ [61]) rest (by rw [HT.out]; try simp) (by simp [size_list, hpA.out]; try omega) _).mono ?_
              rintro e w1 ⟨rfl, m2, rfl⟩
              go_wp2
              go_roundw
              case rel => exact ⟨k + 1, _, p + x.size + 1 + v.size, by omega, by go_num, by go_num, HWL.out.symm, rfl⟩
              case measure => simp [intOf]; omega
    · have e : k = n := by omega
      have hps : Hid ((p : Int) = s.size) := by
        have h1 := hp.out; have h2 := size_list s
        rw [HS.out, ← e] at h2
        show (p : Int) = s.size
        omega
      clear e
      have hpq : (((p : Int)) == (s.size : Int)) = true := by simp [hps.out]
      go_wp2
      go_ret
      exact ⟨rfl, m, rfl⟩

end Go.Proofs.Qxb6603723aFmt
