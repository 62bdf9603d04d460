/-
  A buffer of bytes that the call itself makes and appends to: one predicate, and a law for each kind of append that hands it on. Of no program.
-/
import Derived.WalkKit
import Derived.Lib.AppendStr
import Derived.Laws.IdiomStrings
import Derived.Deep.AppendLies
import Derived.Laws.AppendOwnNone
namespace Go.Proofs.Qxb6601169a.Buf
open Go.RowKit

def bv (c : UInt8) : Value := .int .u8 c.toNat

/-- In w the slice v owns the bytes L, in a block from B on; below B all is as in W0. -/
structure Buf (B : Nat) (W0 : World) (v : Value) (L : List UInt8) (w : World) : Prop where
  own : w.ownsRow B 5 1 v L.length (L.map bv)
  below : Below B W0 w
  base : B ≤ w.heap.size

theorem Buf.alloc {B : Nat} {W0 w : World} {v : Value} {L : List UInt8} (h : Buf B W0 v L w) (o : Obj) : Buf B W0 v L (w.alloc o) :=
  ⟨h.own.alloc o, h.below.alloc h.base o, Nat.le_trans h.base (by simp)⟩

/-- What is made behind the buffer leaves it alone. -/
theorem Buf.later {B : Nat} {W0 w w' : World} {v : Value} {L : List UInt8} (h : Buf B W0 v L w) (hb : Below w.heap.size w w') : Buf B W0 v L w' := by
  refine ⟨?_, h.below.trans (hb.mono h.base), Nat.le_trans h.base hb.size⟩
  exact h.own.kept (row := none) ⟨hb.os, hb.tape, hb.output, hb.size, fun k hk _ => hb.block k hk⟩ (by cases hv : v.ownBlock <;> simp)

/-- Its shape, where it is not empty. -/
theorem Buf.form {B : Nat} {W0 w : World} {v : Value} {L : List UInt8} (h : Buf B W0 v L w) (hn : 0 < L.length) : ∃ g cap, v = .slice (some ⟨g, 0, none⟩) L.length cap := by
  rcases h.own.2 with ⟨_, h0⟩ | ⟨g, cap, cur, rfl, _⟩
  · omega
  · exact ⟨g, cap, rfl⟩

theorem Buf.cell {B : Nat} {W0 w : World} {g cap : Nat} {L : List UInt8} (h : Buf B W0 (.slice (some ⟨g, 0, none⟩) L.length cap) L w) (j : Nat) (hj : j < L.length) : w.cell? ⟨g, j, none⟩ = some (.int .u8 (L[j].toNat : Int)) := by
  rw [h.own.cellAt j (by omega)]
  simp [hj, bv]

theorem Buf.conv {P : Program} {B : Nat} {W0 w : World} {g cap : Nat} {L : List UInt8} (h : Buf B W0 (.slice (some ⟨g, 0, none⟩) L.length cap) L w) (src dst : TypeId)
    (hs : P.underlying src = some (.slice 5)) (he : P.underlying 5 = some (.int .u8)) (hd : P.underlying dst = some .string) :
    (convert src dst (.slice (some ⟨g, 0, none⟩) L.length cap)).run P w = .ok (.string ⟨L.toArray⟩) w := by
  refine run_convert_bytes_back w src dst 5 ⟨g, 0, none⟩ cap L hs he hd ?_
  intro j hj
  rw [Addr.add_lit, Nat.zero_add]
  exact h.cell j hj

section
variable {P : Program}

theorem strCells_eq (s : ByteArray) : Lib.strCells s = s.data.toList.map bv := by
  unfold Lib.strCells bv; simp

theorem buf_make {ops : Array Oper} {rest : List Oper} {o : Oper} {a : Act} {Q : Exit → Act → World → Prop} {w : World} (hgd : o.guard = none) (l c : Operand) (t : TypeId) (ho : o.op = Op.makeSlice t l c)
    (i : TypeInfo) (z : Value) (h1 : P.underlying t = some (.slice 5)) (h2 : P.info? 5 = some i) (h3 : i.zero = some z) (h4 : i.size = 1) (h5 : i.bytes = 1)
    (kl kc : IntKind) (C : Int) (n : Nat) (hl : a.eval l = .int kl 0) (hc : a.eval c = .int kc C) (hC : C = (n : Int)) (hn : n ≤ 1000000000)
    (h : ∀ v' w', Buf w.heap.size w v' [] w' → wpList P ops Q rest (a.put o.dst v') w') : wpList P ops Q (o :: rest) a w := by
  refine wpList_make_own w hgd l c t ho w.heap.size 5 i z 1 h1 h2 h3 h4 kl kc C n hl hc hC (by rw [h5]; omega) (by unfold maxLen; omega) (Nat.le_refl _) ?_
  intro w' ho' hg
  exact h _ w' ⟨ho', (Below.refl _ w).grown hg (Nat.le_refl _) (fun k hk => by cases hk), hg.size⟩

theorem buf_str {ops : Array Oper} {rest : List Oper} {o : Oper} {a : Act} {Q : Exit → Act → World → Prop} {w : World} (hgd : o.guard = none) (sl x : Operand) (t u : TypeId)
    (ho : o.op = .call { callee := .builtin .append, args := #[sl, x], argTypes := #[t, u] })
    (i : TypeInfo) (ht : P.underlying t = some (.slice 5)) (hu : P.underlying u = some .string) (hi : P.info? 5 = some i) (hz : i.zero = some (.int .u8 0)) (hsize : i.size = 1) (hby : i.bytes = 1)
    (B : Nat) (W0 : World) (v : Value) (L : List UInt8) (hs : a.eval sl = v) (hb : Buf B W0 v L w) (s : ByteArray) (hx : a.eval x = .string s) (hlen : L.length + s.size ≤ 1000000000)
    (h : ∀ v' w', Buf B W0 v' (L ++ s.data.toList) w' → wpList P ops Q rest (a.put o.dst v') w') : wpList P ops Q (o :: rest) a w := by
  refine Lib.wpList_append_own_string w hgd sl x t u ho B 5 i ht hu hi hz hsize hby v L.length _ hs hb.own s hx (by unfold maxLen; omega) (by omega) hb.base ?_
  intro v' w' ho' hg _
  refine h v' w' ⟨?_, hb.below.grown hg hb.base (fun k hk => (hb.own.lt k hk).1), Nat.le_trans hb.base hg.size⟩
  rw [List.length_append, List.map_append]
  rw [strCells_eq] at ho'
  exact ho'

/-- A slice at any address whose cells are the bytes M. -/
theorem buf_cells {ops : Array Oper} {rest : List Oper} {o : Oper} {a : Act} {Q : Exit → Act → World → Prop} {w : World} (hgd : o.guard = none) (sl x : Operand) (t : TypeId)
    (ho : o.op = .call { callee := .builtin .append, args := #[sl, x], argTypes := #[t, t] })
    (i : TypeInfo) (ht : P.underlying t = some (.slice 5)) (hi : P.info? 5 = some i) (hz : i.zero = some (.int .u8 0)) (hsize : i.size = 1) (hby : i.bytes = 1)
    (B : Nat) (W0 : World) (v : Value) (L : List UInt8) (hs : a.eval sl = v) (hb : Buf B W0 v L w) (g m c : Nat) (M : List UInt8) (hx : a.eval x = .slice (some ⟨g, 0, none⟩) m c) (hm : M.length = m)
    (hcell : ∀ j (hj : j < M.length), w.cell? ⟨g, j, none⟩ = some (bv M[j])) (hlen : L.length + M.length ≤ 1000000000)
    (h : ∀ v' w', Buf B W0 v' (L ++ M) w' → wpList P ops Q rest (a.put o.dst v') w') : wpList P ops Q (o :: rest) a w := by
  subst hm
  refine wpList_append_own w hgd sl x t ho B 5 i (.int .u8 0) 1 1 ht hi hz hsize hby rfl (by decide) v L.length _ hs hb.own ⟨g, 0, none⟩ M.length c (M.map bv) hx (by simp) ?_ ?_ (by unfold maxLen; omega) (by omega) hb.base ?_
  · intro j u hj
    obtain ⟨hj', rfl⟩ := List.getElem?_eq_some_iff.1 hj
    rw [Addr.add_lit, Nat.zero_add, hcell j (by simpa using hj')]
    simp
  · intro u hu
    obtain ⟨_, _, rfl⟩ := List.mem_map.1 hu
    rfl
  · intro v' w' ho' hg _
    refine h v' w' ⟨?_, hb.below.grown hg hb.base (fun k hk => (hb.own.lt k hk).1), Nat.le_trans hb.base hg.size⟩
    rw [List.length_append, List.map_append]
    exact ho'

/-- 'append(b, x, y ..)': the new bytes lie in the block that the statement has just laid. -/
theorem buf_lit {ops : Array Oper} {rest : List Oper} {o : Oper} {a : Act} {Q : Exit → Act → World → Prop} {w0 : World} (hgd : o.guard = none) (sl x : Operand) (t : TypeId)
    (ho : o.op = .call { callee := .builtin .append, args := #[sl, x], argTypes := #[t, t] })
    (i : TypeInfo) (ht : P.underlying t = some (.slice 5)) (hi : P.info? 5 = some i) (hz : i.zero = some (.int .u8 0)) (hsize : i.size = 1) (hby : i.bytes = 1)
    (B : Nat) (W0 : World) (v : Value) (L : List UInt8) (hs : a.eval sl = v) (hb : Buf B W0 v L w0) (cs : Array Value) (m : Nat) (M : List UInt8) (hx : a.eval x = .slice (some ⟨w0.heap.size, 0, none⟩) m m) (hm : M.length = m)
    (hcs : cs.toList = M.map bv) (hlen : L.length + M.length ≤ 1000000000)
    (h : ∀ v' w', Buf B W0 v' (L ++ M) w' → wpList P ops Q rest (a.put o.dst v') w') : wpList P ops Q (o :: rest) a (w0.alloc (.cells cs 5)) := by
  refine buf_cells hgd sl x t ho i ht hi hz hsize hby B W0 v L hs (hb.alloc _) w0.heap.size m m M hx hm ?_ hlen h
  intro j hj
  rw [World.cell?_alloc_new, ← Array.getElem?_toList, hcs]
  simp [hj]

/-- 'append(b, c)': one byte. -/
theorem buf_one {ops : Array Oper} {rest : List Oper} {o : Oper} {a : Act} {Q : Exit → Act → World → Prop} {w0 : World} (hgd : o.guard = none) (sl x : Operand) (t : TypeId)
    (ho : o.op = .call { callee := .builtin .append, args := #[sl, x], argTypes := #[t, t] })
    (i : TypeInfo) (ht : P.underlying t = some (.slice 5)) (hi : P.info? 5 = some i) (hz : i.zero = some (.int .u8 0)) (hsize : i.size = 1) (hby : i.bytes = 1)
    (B : Nat) (W0 : World) (v : Value) (L : List UInt8) (hs : a.eval sl = v) (hb : Buf B W0 v L w0) (hx : a.eval x = .slice (some ⟨w0.heap.size, 0, none⟩) 1 1) (z : Int) (c : UInt8) (hzc : z = (c.toNat : Int))
    (hlen : L.length + 1 ≤ 1000000000)
    (h : ∀ v' w', Buf B W0 v' (L ++ [c]) w' → wpList P ops Q rest (a.put o.dst v') w') : wpList P ops Q (o :: rest) a (w0.alloc (.cells #[.int .u8 z] 5)) := by
  subst hzc
  exact buf_lit hgd sl x t ho i ht hi hz hsize hby B W0 v L hs hb _ 1 [c] hx rfl rfl hlen h

/-- A source that came in: nil, or cells behind an address. -/
theorem buf_src {ops : Array Oper} {rest : List Oper} {o : Oper} {a : Act} {Q : Exit → Act → World → Prop} {w : World} (hgd : o.guard = none) (sl x : Operand) (t : TypeId)
    (ho : o.op = .call { callee := .builtin .append, args := #[sl, x], argTypes := #[t, t] })
    (i : TypeInfo) (ht : P.underlying t = some (.slice 5)) (hi : P.info? 5 = some i) (hz : i.zero = some (.int .u8 0)) (hsize : i.size = 1) (hby : i.bytes = 1)
    (B : Nat) (W0 : World) (v : Value) (L : List UInt8) (hs : a.eval sl = v) (hb : Buf B W0 v L w) (ao : Option Addr) (m c : Nat) (M : List UInt8) (hx : a.eval x = .slice ao m c) (hm : M.length = m)
    (hnone : ao = none → m = 0 ∧ c = 0) (hcell : ∀ ad, ao = some ad → ∀ j (hj : j < M.length), w.cell? (ad.add j) = some (bv M[j])) (hlen : L.length + M.length ≤ 1000000000)
    (h : ∀ v' w', Buf B W0 v' (L ++ M) w' → wpList P ops Q rest (a.put o.dst v') w') : wpList P ops Q (o :: rest) a w := by
  subst hm
  cases ao with
  | none =>
    obtain ⟨h0, h1⟩ := hnone rfl
    obtain rfl := List.eq_nil_of_length_eq_zero h0
    subst h1
    refine wpList_append_own_none hgd sl x t ho B 5 i 1 ht hi v L.length _ hs hb.own hx ?_
    exact h v w (by simpa using hb)
  | some ad =>
    refine wpList_append_own w hgd sl x t ho B 5 i (.int .u8 0) 1 1 ht hi hz hsize hby rfl (by decide) v L.length _ hs hb.own ad M.length c (M.map bv) hx (by simp) ?_ ?_ (by unfold maxLen; omega) (by omega) hb.base ?_
    · intro j u hj
      obtain ⟨hj', rfl⟩ := List.getElem?_eq_some_iff.1 hj
      rw [hcell ad rfl j (by simpa using hj')]
      simp
    · intro u hu
      obtain ⟨_, _, rfl⟩ := List.mem_map.1 hu
      rfl
    · intro v' w' ho' hg _
      refine h v' w' ⟨?_, hb.below.grown hg hb.base (fun k hk => (hb.own.lt k hk).1), Nat.le_trans hb.base hg.size⟩
      rw [List.length_append, List.map_append]
      exact ho'

/-- 'make([]byte, l, n)': l zero bytes, room for n. -/
theorem buf_make_len {ops : Array Oper} {rest : List Oper} {o : Oper} {a : Act} {Q : Exit → Act → World → Prop} {w : World} (hgd : o.guard = none) (l c : Operand) (t : TypeId) (ho : o.op = Op.makeSlice t l c)
    (i : TypeInfo) (h1 : P.underlying t = some (.slice 5)) (h2 : P.info? 5 = some i) (h3 : i.zero = some (.int .u8 0)) (h4 : i.size = 1) (h5 : i.bytes = 1)
    (kl kc : IntKind) (N C : Int) (m n : Nat) (hl : a.eval l = .int kl N) (hc : a.eval c = .int kc C) (hN : N = (m : Int)) (hC : C = (n : Int)) (hmn : m ≤ n) (hn : n ≤ 1000000000)
    (h : ∀ w', Buf w.heap.size w (.slice (some ⟨w.heap.size, 0, none⟩) m n) (List.replicate m 0) w' → w.heap.size < w'.heap.size → wpList P ops Q rest (a.put o.dst (.slice (some ⟨w.heap.size, 0, none⟩) m n)) w') :
    wpList P ops Q (o :: rest) a w := by
  refine wpList_plain hgd fun K hK' => ?_
  have hr := run_make (P := P) w t 5 i (.int .u8 0) h1 h2 h3 kl kc (m : Int) (n : Int) (by omega) (by omega) (by rw [h5]; omega) (by omega)
  simp only [Int.toNat_natCast, h4, Nat.mul_one] at hr
  subst hN
  subst hC
  unfold Oper.wp
  simp [execOp, ho, hl, hc, hr, Result.andThen]
  refine hK' _ _ (h _ ⟨?_, (Below.refl _ w).alloc (Nat.le_refl _) _, by simp⟩ (by simp))
  have e : (madeCells (Value.int .u8 0).cells n) = madeCells #[Value.int .u8 0] n := rfl
  rw [e]
  refine ⟨by simp, .inr ⟨w.heap.size, n, _, by rw [List.length_replicate], Nat.le_refl _, heap_alloc_new w _, by simpa using hmn, by unfold maxLen; omega, by rw [size_madeCells, Nat.mul_one], ?_⟩⟩
  rw [toList_madeCells_one, List.length_replicate, Nat.mul_one, List.take_replicate, Nat.min_eq_left hmn, List.map_replicate]
  rfl

end

theorem nil_buf {w W : World} (hb : Below w.heap.size w W) : Buf w.heap.size w (.slice none 0 0) [] W := ⟨World.ownsRow_nil _ _ _ _, hb, hb.size⟩

/-- As 'buf_lit', at a step of a region that draws its order. -/
theorem step_cells {P : Program} {w : World} {ops : Array Oper} {o : Oper} {a : Act} {K : Act → World → Prop} {Q : Exit → Act → World → Prop} {E : Prop} (hgd : o.guard = none) (sl x : Operand) (t : TypeId)
    (ho : o.op = .call { callee := .builtin .append, args := #[sl, x], argTypes := #[t, t] })
    (i : TypeInfo) (ht : P.underlying t = some (.slice 5)) (hi : P.info? 5 = some i) (hz : i.zero = some (.int .u8 0)) (hsize : i.size = 1) (hby : i.bytes = 1)
    (B : Nat) (W0 : World) (v : Value) (L : List UInt8) (hs : a.eval sl = v) (hb : Buf B W0 v L w) (g m c : Nat) (M : List UInt8) (hx : a.eval x = .slice (some ⟨g, 0, none⟩) m c) (hm : M.length = m) (h0 : 0 < m)
    (hcell : ∀ j (hj : j < M.length), w.cell? ⟨g, j, none⟩ = some (bv M[j])) (hlen : L.length + M.length ≤ 1000000000)
    (h : ∀ g' cap w', Buf B W0 (.slice (some ⟨g', 0, none⟩) (L.length + m) cap) (L ++ M) w' → K (a.put o.dst (.slice (some ⟨g', 0, none⟩) (L.length + m) cap)) w') :
    if Region.wanted o (yielded ops a.tmps) = true then Oper.wp P o a w K Q else E := by
  subst hm
  refine step_append_lies w hgd sl x t ho B 5 i (.int .u8 0) 1 1 ht hi hz hsize hby rfl (by decide) v L.length _ hs hb.own ⟨g, 0, none⟩ M.length c (M.map bv) hx (by simp) ?_ ?_ h0 (by unfold maxLen; omega) (by omega) hb.base _ rfl ?_
  · intro j u hj
    obtain ⟨hj', rfl⟩ := List.getElem?_eq_some_iff.1 hj
    rw [Addr.add_lit, Nat.zero_add, hcell j (by simpa using hj')]
    simp
  · intro u hu
    obtain ⟨_, _, rfl⟩ := List.mem_map.1 hu
    rfl
  · intro g' cap w' ho' hg _ _
    refine h g' cap w' ⟨?_, hb.below.grown hg hb.base (fun k hk => (hb.own.lt k hk).1), Nat.le_trans hb.base hg.size⟩
    rw [List.length_append, List.map_append]
    exact ho'

end Go.Proofs.Qxb6601169a.Buf
