/-
  A buffer of bytes that the call itself makes and appends to; string(buf).
-/
import Derived.Test.Qxb6603723aFmtZZ
import Derived.Test.Qxb6603723aFmtLeaf
import Derived.Lib.AppendStr
import Derived.Laws.IdiomStrings
namespace Go.Proofs.Qxb6603723aFmt
open Go.RowKit

theorem Tryf.info5 : (Tryf.prog.info? 5).map (fun i => (i.zero, i.size, i.bytes)) = some (some (.int .u8 0), 1, 1) := by kernel_rfl

def cat (a b : Bs) : Bs := a ++ b
theorem cat_len (a b : Bs) : (cat a b).length = a.length + b.length := List.length_append
def u8s (l : Bs) : List Value := l.map fun b => Value.int .u8 b.toNat
def Buf (base : Nat) (w wr : World) (v : Value) (l : Bs) : Prop := wr.ownsRow base 5 1 v l.length (u8s l) ∧ Below base w wr ∧ base ≤ wr.heap.size

theorem cellW {base : Nat} {w wr : World} {p : Addr} {v : Value} (hb : Below base w wr) (e : base = w.heap.size) (h : w.cell? p = some v) : wr.cell? p = some v :=
  (hb.cell (by rw [e]; exact World.block_lt_of_cell? w p h)).trans h

theorem wp_app_byte {ops : Array Oper} {rest : List Oper} {o : Oper} {a : Act} {Q : Exit → Act → World → Prop} (hgd : o.guard = none) (s x : Operand)
    (ho : o.op = .call { callee := .builtin .append, args := #[s, x], argTypes := #[32, 32] })
    {base : Nat} {w wr : World} {v : Value} {l : Bs} (hB : Buf base w wr v l) (c : UInt8) (n : Int) (hn : n = (c.toNat : Int)) (hs : a.eval s = v) (hx : a.eval x = .slice (some ⟨wr.heap.size, 0, none⟩) 1 1)
    (hl : l.length ≤ 16777216)
    (h : ∀ v' w', Buf base w w' v' (cat l [c]) → wpList Tryf.prog ops Q rest (a.put o.dst v') w') : wpList Tryf.prog ops Q (o :: rest) a (wr.alloc (.cells #[.int .u8 n] 5)) := by
  obtain ⟨i0, hi, hz0, hz1, hz2⟩ := info_parts Tryf.info5
  obtain ⟨ho1, hb, hz⟩ := hB
  subst hn
  refine wpList_append_own _ hgd s x 32 ho base 5 i0 (.int .u8 0) 1 1 Tryf.underlying32 hi hz0 hz1 hz2 rfl (by decide) v l.length _ hs (ho1.alloc _) ⟨wr.heap.size, 0, none⟩ 1 1 [.int .u8 (c.toNat : Int)] hx rfl ?_ ?_ (by unfold maxLen; omega) (by omega) (by simp; omega) ?_
  · intro j u hj
    match j, hj with
    | 0, hj => simp at hj; subst hj; simp [Addr.add]
  · intro u hu; simp at hu; subst hu; rfl
  · intro v' w' ho2 hg _
    have hb2 := (hb.alloc hz (.cells #[.int .u8 (c.toNat : Int)] 5)).grown hg (by simp; omega) (fun j hj => by have := (ho1.lt j hj).1; omega)
    refine h v' w' ⟨?_, hb2, ?_⟩
    · show w'.ownsRow base 5 1 v' (l ++ [c]).length (u8s (l ++ [c]))
      have : u8s (l ++ [c]) = u8s l ++ [.int .u8 (c.toNat : Int)] := by simp [u8s]
      rw [this]; simpa using ho2
    · have := hg.size; simp at this; omega

theorem wp_app_str {ops : Array Oper} {rest : List Oper} {o : Oper} {a : Act} {Q : Exit → Act → World → Prop} (hgd : o.guard = none) (s x : Operand)
    (ho : o.op = .call { callee := .builtin .append, args := #[s, x], argTypes := #[32, 9] })
    {base : Nat} {w wr : World} {v : Value} {l : Bs} (hB : Buf base w wr v l) (t : ByteArray) (hs : a.eval s = v) (hx : a.eval x = .string t)
    (hl : l.length ≤ 16777216) (ht : t.size ≤ 1048576)
    (h : ∀ v' w', Buf base w w' v' (cat l t.data.toList) → wpList Tryf.prog ops Q rest (a.put o.dst v') w') : wpList Tryf.prog ops Q (o :: rest) a wr := by
  obtain ⟨i0, hi, hz0, hz1, hz2⟩ := info_parts Tryf.info5
  obtain ⟨ho1, hb, hz⟩ := hB
  refine Lib.wpList_append_own_string _ hgd s x 32 9 ho base 5 i0 Tryf.underlying32 Tryf.underlying9 hi hz0 hz1 hz2 v l.length _ hs ho1 t hx (by unfold maxLen; omega) (by omega) hz ?_
  intro v' w' ho2 hg _
  have hb2 := hb.grown hg hz (fun j hj => by have := (ho1.lt j hj).1; omega)
  refine h v' w' ⟨?_, hb2, ?_⟩
  · show w'.ownsRow base 5 1 v' (l ++ t.data.toList).length (u8s (l ++ t.data.toList))
    have : u8s (l ++ t.data.toList) = u8s l ++ Lib.strCells t := by simp [u8s, Lib.strCells]
    rw [this, List.length_append, size_list]; exact ho2
  · have := hg.size; omega

theorem run_conv {base : Nat} {wr : World} {v : Value} {l : Bs} (h : wr.ownsRow base 5 1 v l.length (u8s l)) : (convert 32 9 v).run Tryf.prog wr = .ok (.string (B l)) wr := by
  rcases h.2 with ⟨rfl, h0⟩ | ⟨g, cap, cur, rfl, _⟩
  · have e : l = [] := List.eq_nil_of_length_eq_zero h0
    subst e
    rw [run_convert_bytes_string wr 32 9 5 none 0 0 Tryf.underlying32 Tryf.underlying5 Tryf.underlying9]
    simp [Conv.bytesToString]
    rfl
  · refine run_convert_bytes_back wr 32 9 5 ⟨g, 0, none⟩ cap l Tryf.underlying32 Tryf.underlying5 Tryf.underlying9 ?_
    intro j hj
    have := h.cells (g := g) rfl j (.int .u8 (l[j].toNat : Int)) (by simp [u8s, hj])
    exact this

end Go.Proofs.Qxb6603723aFmt
