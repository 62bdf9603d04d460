/-
  A buffer of bytes that the call itself makes and appends to: one predicate, and a law for each kind of append that hands it on. Of no program.
-/
import Derived.WalkKit
import Derived.Lib.AppendStr
import Derived.Laws.IdiomStrings
import Derived.Deep.AppendLies
namespace Go.Proofs.Qxb6600666a.Buf
open Go.RowKit

def bv (c : UInt8) : Value := .int .u8 c.toNat

/-- In w the slice v owns the bytes L, in a block from B on; below B all is as in W0. -/
structure Buf (B : Nat) (W0 : World) (v : Value) (L : List UInt8) (w : World) : Prop where
  own : w.ownsRow B 5 1 v L.length (L.map bv)
  below : Below B W0 w
  base : B ≤ w.heap.size

theorem Buf.alloc {B : Nat} {W0 w : World} {v : Value} {L : List UInt8} (h : Buf B W0 v L w) (o : Obj) : Buf B W0 v L (w.alloc o) :=
  ⟨h.own.alloc o, h.below.alloc h.base o, Nat.le_trans h.base (by simp)⟩

/-- What is made behind the buffer leaves it alone. -/
theorem Buf.later {B : Nat} {W0 w w' : World} {v : Value} {L : List UInt8} (h : Buf B W0 v L w) (hb : Below w.heap.size w w') : Buf B W0 v L w' := by
  refine ⟨?_, h.below.trans (hb.mono h.base), Nat.le_trans h.base hb.size⟩
  exact h.own.kept (row := none) ⟨hb.os, hb.tape, hb.output, hb.size, fun k hk _ => hb.block k hk⟩ (by cases hv : v.ownBlock <;> simp)

/-- Its shape, where it is not empty. -/
theorem Buf.form {B : Nat} {W0 w : World} {v : Value} {L : List UInt8} (h : Buf B W0 v L w) (hn : 0 < L.length) : ∃ g cap, v = .slice (some ⟨g, 0, none⟩) L.length cap := by
  rcases h.own.2 with ⟨_, h0⟩ | ⟨g, cap, cur, rfl, _⟩
  · omega
  · exact ⟨g, cap, rfl⟩

theorem Buf.cell {B : Nat} {W0 w : World} {g cap : Nat} {L : List UInt8} (h : Buf B W0 (.slice (some ⟨g, 0, none⟩) L.length cap) L w) (j : Nat) (hj : j < L.length) : w.cell? ⟨g, j, none⟩ = some (.int .u8 (L[j].toNat : Int)) := by
  rw [h.own.cellAt j (by omega)]
  simp [hj, bv]

theorem Buf.conv {P : Program} {B : Nat} {W0 w : World} {g cap : Nat} {L : List UInt8} (h : Buf B W0 (.slice (some ⟨g, 0, none⟩) L.length cap) L w) (src dst : TypeId)
    (hs : P.underlying src = some (.slice 5)) (he : P.underlying 5 = some (.int .u8)) (hd : P.underlying dst = some .string) :
    (convert src dst (.slice (some ⟨g, 0, none⟩) L.length cap)).run P w = .ok (.string ⟨L.toArray⟩) w := by
  refine run_convert_bytes_back w src dst 5 ⟨g, 0, none⟩ cap L hs he hd ?_
  intro j hj
  rw [Addr.add_lit, Nat.zero_add]
  exact h.cell j hj

section
variable {P : Program}

theorem strCells_eq (s : ByteArray) : Lib.strCells s = s.data.toList.map bv := by
  unfold Lib.strCells bv; simp

theorem buf_make {ops : Array Oper} {rest : List Oper} {o : Oper} {a : Act} {Q : Exit → Act → World → Prop} {w : World} (hgd : o.guard = none) (l c : Operand) (t : TypeId) (ho : o.op = Op.makeSlice t l c)
    (i : TypeInfo) (z : Value) (h1 : P.underlying t = some (.slice 5)) (h2 : P.info? 5 = some i) (h3 : i.zero = some z) (h4 : i.size = 1) (h5 : i.bytes = 1)
    (kl kc : IntKind) (C : Int) (n : Nat) (hl : a.eval l = .int kl 0) (hc : a.eval c = .int kc C) (hC : C = (n : Int)) (hn : n ≤ 1000000000)
    (h : ∀ v' w', Buf w.heap.size w v' [] w' → wpList P ops Q rest (a.put o.dst v') w') : wpList P ops Q (o :: rest) a w := by
  refine wpList_make_own w hgd l c t ho w.heap.size 5 i z 1 h1 h2 h3 h4 kl kc C n hl hc hC (by rw [h5]; omega) (by unfold maxLen; omega) (Nat.le_refl _) ?_
  intro w' ho' hg
  exact h _ w' ⟨ho', (Below.refl _ w).grown hg (Nat.le_refl _) (fun k hk => by cases hk), hg.size⟩

theorem buf_str {ops : Array Oper} {rest : List Oper} {o : Oper} {a : Act} {Q : Exit → Act → World → Prop} {w : World} (hgd : o.guard = none) (sl x : Operand) (t u : TypeId)
    (ho : o.op = .call { callee := .builtin .append, args := #[sl, x], argTypes := #[t, u] })
    (i : TypeInfo) (ht : P.underlying t = some (.slice 5)) (hu : P.underlying u = some .string) (hi : P.info? 5 = some i) (hz : i.zero = some (.int .u8 0)) (hsize : i.size = 1) (hby : i.bytes = 1)
    (B : Nat) (W0 : World) (v : Value) (L : List UInt8) (hs : a.eval sl = v) (hb : Buf B W0 v L w) (s : ByteArray) (hx : a.eval x = .string s) (hlen : L.length + s.size ≤ 1000000000)
    (h : ∀ v' w', Buf B W0 v' (L ++ s.data.toList) w' → wpList P ops Q rest (a.put o.dst v') w') : wpList P ops Q (o :: rest) a w := by
  refine Lib.wpList_append_own_string w hgd sl x t u ho B 5 i ht hu hi hz hsize hby v L.length _ hs hb.own s hx (by unfold maxLen; omega) (by omega) hb.base ?_
  intro v' w' ho' hg _
  refine h v' w' ⟨?_, hb.below.grown hg hb.base (fun k hk => (hb.own.lt k hk).1), Nat.le_trans hb.base hg.size⟩
  rw [List.length_append, List.map_append]
  rw [strCells_eq] at ho'
  exact ho'

/-- A slice at any address whose cells are the bytes M. -/
theorem buf_cells {ops : Array Oper} {rest : List Oper} {o : Oper} {a : Act} {Q : Exit → Act → World → Prop} {w : World} (hgd : o.guard = none) (sl x : Operand) (t : TypeId)
    (ho : o.op = .call { callee := .builtin .append, args := #[sl, x], argTypes := #[t, t] })
    (i : TypeInfo) (ht : P.underlying t = some (.slice 5)) (hi : P.info? 5 = some i) (hz : i.zero = some (.int .u8 0)) (hsize : i.size = 1) (hby : i.bytes = 1)
    (B : Nat) (W0 : World) (v : Value) (L : List UInt8) (hs : a.eval sl = v) (hb : Buf B W0 v L w) (g m c : Nat) (M : List UInt8) (hx : a.eval x = .slice (some ⟨g, 0, none⟩) m c) (hm : M.length = m)
    (hcell : ∀ j (hj : j < M.length), w.cell? ⟨g, j, none⟩ = some (bv M[j])) (hlen : L.length + M.length ≤ 1000000000)
    (h : ∀ v' w', Buf B W0 v' (L ++ M) w' → wpList P ops Q rest (a.put o.dst v') w') : wpList P ops Q (o :: rest) a w := by
  subst hm
  refine wpList_append_own w hgd sl x t ho B 5 i (.int .u8 0) 1 1 ht hi hz hsize hby rfl (by decide) v L.length _ hs hb.own ⟨g, 0, none⟩ M.length c (M.map bv) hx (by simp) ?_ ?_ (by unfold maxLen; omega) (by omega) hb.base ?_
  · intro j u hj
    obtain ⟨hj', rfl⟩ := List.getElem?_eq_some_iff.1 hj
    rw [Addr.add_lit, Nat.zero_add, hcell j (by simpa using hj')]
    simp
  · intro u hu
    obtain ⟨_, _, rfl⟩ := List.mem_map.1 hu
    rfl
  · intro v' w' ho' hg _
    refine h v' w' ⟨?_, hb.below.grown hg hb.base (fun k hk => (hb.own.lt k hk).1), Nat.le_trans hb.base hg.size⟩
    rw [List.length_append, List.map_append]
    exact ho'

/-- 'append(b, x, y ..)': the new bytes lie in the block that the statement has just laid. -/
theorem buf_lit {ops : Array Oper} {rest : List Oper} {o : Oper} {a : Act} {Q : Exit → Act → World → Prop} {w0 : World} (hgd : o.guard = none) (sl x : Operand) (t : TypeId)
    (ho : o.op = .call { callee := .builtin .append, args := #[sl, x], argTypes := #[t, t] })
    (i : TypeInfo) (ht : P.underlying t = some (.slice 5)) (hi : P.info? 5 = some i) (hz : i.zero = some (.int .u8 0)) (hsize : i.size = 1) (hby : i.bytes = 1)
    (B : Nat) (W0 : World) (v : Value) (L : List UInt8) (hs : a.eval sl = v) (hb : Buf B W0 v L w0) (cs : Array Value) (m : Nat) (M : List UInt8) (hx : a.eval x = .slice (some ⟨w0.heap.size, 0, none⟩) m m) (hm : M.length = m)
    (hcs : cs.toList = M.map bv) (hlen : L.length + M.length ≤ 1000000000)
    (h : ∀ v' w', Buf B W0 v' (L ++ M) w' → wpList P ops Q rest (a.put o.dst v') w') : wpList P ops Q (o :: rest) a (w0.alloc (.cells cs 5)) := by
  refine buf_cells hgd sl x t ho i ht hi hz hsize hby B W0 v L hs (hb.alloc _) w0.heap.size m m M hx hm ?_ hlen h
  intro j hj
  rw [World.cell?_alloc_new, ← Array.getElem?_toList, hcs]
  simp [hj]

/-- 'append(b, c)': one byte. -/
theorem buf_one {ops : Array Oper} {rest : List Oper} {o : Oper} {a : Act} {Q : Exit → Act → World → Prop} {w0 : World} (hgd : o.guard = none) (sl x : Operand) (t : TypeId)
    (ho : o.op = .call { callee := .builtin .append, args := #[sl, x], argTypes := #[t, t] })
    (i : TypeInfo) (ht : P.underlying t = some (.slice 5)) (hi : P.info? 5 = some i) (hz : i.zero = some (.int .u8 0)) (hsize : i.size = 1) (hby : i.bytes = 1)
    (B : Nat) (W0 : World) (v : Value) (L : List UInt8) (hs : a.eval sl = v) (hb : Buf B W0 v L w0) (hx : a.eval x = .slice (some ⟨w0.heap.size, 0, none⟩) 1 1) (z : Int) (c : UInt8) (hzc : z = (c.toNat : Int))
    (hlen : L.length + 1 ≤ 1000000000)
    (h : ∀ v' w', Buf B W0 v' (L ++ [c]) w' → wpList P ops Q rest (a.put o.dst v') w') : wpList P ops Q (o :: rest) a (w0.alloc (.cells #[.int .u8 z] 5)) := by
  subst hzc
  exact buf_lit hgd sl x t ho i ht hi hz hsize hby B W0 v L hs hb _ 1 [c] hx rfl rfl hlen h

end
end Go.Proofs.Qxb6600666a.Buf
