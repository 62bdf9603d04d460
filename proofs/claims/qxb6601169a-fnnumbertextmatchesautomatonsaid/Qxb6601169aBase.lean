/-
  What is told of a slice of bytes that came in; of no program.
-/
import Derived.Test.Qxb6601169aBuf
namespace Go.Proofs.Qxb6601169a.Base
open Go.RowKit Go.Proofs.Qxb6601169a.Buf

/-- A slice of integers that came in: it is nil; or it leads to a row of 'cap' cells, the numbers 'zs' (the first 'len' are its elements, the rest its spare room), each fitting its kind. -/
def IsRow (k : IntKind) (w : World) (a : Option Addr) (len cap : Nat) (zs : List Int) : Prop :=
  (a = none ∧ len = 0 ∧ cap = 0 ∧ zs = []) ∨
  ∃ x, a = some x ∧ len ≤ cap ∧ cap ≤ maxLen ∧ zs.length = cap ∧ (∀ i, i < zs.length → w.cell? (x.add i) = some (.int k (zs.getD i 0))) ∧ ∀ n ∈ zs, (Lit.int k n).wf = true

/-- The same as bytes: the n elements M. -/
structure Src (w : World) (a : Option Addr) (n cap : Nat) (M : List UInt8) : Prop where
  len : M.length = n
  le : n ≤ cap
  cm : cap ≤ maxLen
  nil : a = none → n = 0 ∧ cap = 0
  cell : ∀ ad, a = some ad → ∀ j (hj : j < M.length), w.cell? (ad.add j) = some (bv M[j])

theorem src_of {w : World} {a : Option Addr} {len cap : Nat} {zs : List Int} (h : IsRow .u8 w a len cap zs) : ∃ M, Src w a len cap M := by
  rcases h with ⟨rfl, rfl, rfl, rfl⟩ | ⟨x, rfl, hl, hm, hz, hcell, hwf⟩
  · exact ⟨[], ⟨rfl, Nat.le_refl _, (by unfold maxLen; omega), fun _ => ⟨rfl, rfl⟩, fun ad had => (Option.some_ne_none ad had.symm).elim⟩⟩
  · refine ⟨(zs.take len).map (fun z => UInt8.ofNat z.toNat), ⟨(by simp; omega), hl, hm, fun h => (Option.some_ne_none x h).elim, ?_⟩⟩
    intro ad had j hj
    obtain rfl := Option.some.inj had
    have hj' : j < zs.length := by simp at hj; omega
    rw [hcell j hj']
    have hw := hwf zs[j] (List.getElem_mem hj')
    have hb : 0 ≤ zs[j] ∧ zs[j] ≤ 255 := by simpa [Lit.wf, IntKind.min, IntKind.max, IntKind.bits, IntKind.signed] using hw
    simp only [bv, List.getElem_map, List.getElem_take, List.getD_eq_getElem?_getD, List.getElem?_eq_getElem hj', Option.getD_some]
    congr 2
    simp
    omega

theorem add_block (ad : Addr) (j : Nat) : (ad.add j).block = ad.block := by unfold Addr.add; split <;> rfl

theorem Src.later {w w' : World} {a : Option Addr} {n cap : Nat} {M : List UInt8} (h : Src w a n cap M) (hb : Below w.heap.size w w') : Src w' a n cap M := by
  refine ⟨h.len, h.le, h.cm, h.nil, fun ad had j hj => ?_⟩
  have hc := h.cell ad had j hj
  rw [hb.cell (World.block_lt_of_cell? w _ hc)]
  exact hc

theorem form2 {B : Nat} {W0 w : World} {v : Value} {L : List UInt8} (h : Buf B W0 v L w) (hn : 0 < L.length) : ∃ g cap, v = .slice (some ⟨g, 0, none⟩) L.length cap ∧ L.length ≤ cap ∧ cap ≤ maxLen := by
  rcases h.own.2 with ⟨_, h0⟩ | ⟨g, cap, cur, rfl, _, _, h1, h2, _⟩
  · omega
  · exact ⟨g, cap, rfl, h1, h2⟩
end Go.Proofs.Qxb6601169a.Base
