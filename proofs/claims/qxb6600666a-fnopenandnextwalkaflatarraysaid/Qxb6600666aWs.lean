/-
  The walks of zzb1IsJSONSpace and zzb1Whitespace.
-/
import Derived.Test.Qxb6600666aProg
import Derived.Test.Qxb6600666aPlain
import Derived.Test.Qxb6600666aBuf
import Derived.WalkKit
import Derived.WalkSpells
import Derived.WalkSmall
import Derived.Deep.LoopGhost
import Derived.Deep.QuietTactic
import Derived.BigQuiet
namespace Go.Proofs.Qxb6600666a.Ws
open Go.RowKit Go.Proofs.Qxb6600666a.Buf Go.Proofs.Qxb6600666a.Plain

theorem Try.info5 : (Try.prog.info? 5).map (fun i => (i.zero, i.size, i.bytes)) = some (some (.int .u8 0), 1, 1) := by kernel_rfl

theorem space_any (c : UInt8) (w : World) : Calls Try.prog 14 #[.int .u8 c.toNat] w fun e w' => e = .returned (.bool (isSp c)) ∧ w' = w := by
  by_cases h0 : (c.toNat : Int) = 32
  · have hs : isSp c = true := (isSp_iff c).2 (by omega)
    have g0 : ((c.toNat : Int) == 32) = true := by simpa using h0
    have HS : Hid (isSp c = true) := hs
    clear h0 hs
    go_enter Try.func14, Try.ntmps14
    go_wp2
    go_ret
    exact ⟨by rw [HS.out]; rfl, rfl⟩
  · by_cases h1 : (c.toNat : Int) = 9
    · have hs : isSp c = true := (isSp_iff c).2 (by omega)
      have g0 : ((c.toNat : Int) == 32) = false := by simpa using h0
      have g1 : ((c.toNat : Int) == 9) = true := by simpa using h1
      have HS : Hid (isSp c = true) := hs
      clear h0 h1 hs
      go_enter Try.func14, Try.ntmps14
      go_wp2
      go_ret
      exact ⟨by rw [HS.out]; rfl, rfl⟩
    · by_cases h2 : (c.toNat : Int) = 10
      · have hs : isSp c = true := (isSp_iff c).2 (by omega)
        have g0 : ((c.toNat : Int) == 32) = false := by simpa using h0
        have g1 : ((c.toNat : Int) == 9) = false := by simpa using h1
        have g2 : ((c.toNat : Int) == 10) = true := by simpa using h2
        have HS : Hid (isSp c = true) := hs
        clear h0 h1 h2 hs
        go_enter Try.func14, Try.ntmps14
        go_wp2
        go_ret
        exact ⟨by rw [HS.out]; rfl, rfl⟩
      · by_cases h3 : (c.toNat : Int) = 13
        · have hs : isSp c = true := (isSp_iff c).2 (by omega)
          have g0 : ((c.toNat : Int) == 32) = false := by simpa using h0
          have g1 : ((c.toNat : Int) == 9) = false := by simpa using h1
          have g2 : ((c.toNat : Int) == 10) = false := by simpa using h2
          have g3 : ((c.toNat : Int) == 13) = true := by simpa using h3
          have HS : Hid (isSp c = true) := hs
          clear h0 h1 h2 h3 hs
          go_enter Try.func14, Try.ntmps14
          go_wp2
          go_ret
          exact ⟨by rw [HS.out]; rfl, rfl⟩
        · have hs : isSp c = false := isSp_not h0 h1 h2 h3
          have g0 : ((c.toNat : Int) == 32) = false := by simpa using h0
          have g1 : ((c.toNat : Int) == 9) = false := by simpa using h1
          have g2 : ((c.toNat : Int) == 10) = false := by simpa using h2
          have g3 : ((c.toNat : Int) == 13) = false := by simpa using h3
          have HS : Hid (isSp c = false) := hs
          clear h0 h1 h2 h3 hs
          go_enter Try.func14, Try.ntmps14
          go_wp2
          go_ret
          exact ⟨by rw [HS.out]; rfl, rfl⟩

/-- The white space byte of number n. -/
def wsn : Nat → UInt8 | 0 => 32 | 1 => 9 | 2 => 10 | _ => 13

theorem wsn_sp (n : Nat) : isSp (wsn n) = true := by
  unfold wsn
  split <;> decide

theorem ws_at (n : Nat) (h : n < 4) : ({ data := #[32, 9, 10, 13] } : ByteArray)[n]'h = wsn n := by
  match n, h with
  | 0, _ | 1, _ | 2, _ | 3, _ => rfl
  | _ + 4, h => exact absurd h (by omega)

theorem space_round {B n : Nat} {w wr : World} {M : List UInt8} (h : Buf B w (.slice (some ⟨B, 0, none⟩) M.length n) M wr) (k : Nat) (c : UInt8) :
    Buf B w (.slice (some ⟨B, 0, none⟩) (M.set k c).length n) (M.set k c) (wr.setCell ⟨B, k, none⟩ (.int .u8 c.toNat)) := by
  have hst := h.own.stored k (bv c)
  refine ⟨?_, h.below.setCell (Nat.le_refl _) _, by rw [World.size_setCell]; exact h.base⟩
  rw [List.length_set, List.map_set]
  exact hst.1

theorem made_buf {B n : Nat} {w w1 : World} (hown : w1.ownsRow B 5 1 (.slice (some ⟨B, 0, none⟩) n n) n (madeCells (Value.int .u8 0).cells (n * 1)).toList) (hgr : w.grownBy w1 none) (hB : B = w.heap.size) :
    Buf B w (.slice (some ⟨B, 0, none⟩) (List.replicate n (0 : UInt8)).length n) (List.replicate n (0 : UInt8)) w1 := by
  have e : (madeCells (Value.int .u8 0).cells (n * 1)).toList = (List.replicate n (0 : UInt8)).map bv := by
    rw [Nat.mul_one]
    show (madeCells #[Value.int .u8 0] n).toList = _
    rw [toList_madeCells_one, List.map_replicate]; rfl
  rw [e] at hown
  refine ⟨?_, (Below.refl _ w).grown hgr (by omega) (fun k hk => by cases hk), by have := hgr.size; omega⟩
  rw [List.length_replicate]
  exact hown

theorem set_sp {M : List UInt8} {k : Nat} {c : UInt8} (h : ∀ j (hj : j < M.length), j < k → isSp M[j] = true) (hc : isSp c = true) : ∀ j (hj : j < (M.set k c).length), j < k + 1 → isSp (M.set k c)[j] = true := by
  intro j hj hlt
  rw [List.getElem_set]
  split
  · exact hc
  · exact h j (by simpa using hj) (by omega)

theorem ws_any (s : ByteArray) (w : World) (hs : s.size ≤ 1048576) :
    Calls Try.prog 15 #[.string s] w fun e w' => ∃ M : List UInt8, M.length = s.size ∧ (∀ x ∈ M, isSp x = true) ∧ e = .returned (.slice (some ⟨w.heap.size, 0, none⟩) s.size s.size) ∧
      Buf w.heap.size w (.slice (some ⟨w.heap.size, 0, none⟩) M.length s.size) M w' ∧ w.heap.size < w'.heap.size := by
  obtain ⟨i0, hi, hz0, hz1, hz2⟩ := info_parts Try.info5
  go_enter Try.func15, Try.ntmps15
  go_wp2_with (at_make; refine wpList_make_full _ rfl (.tmp 6) (.tmp 6) 23 rfl w.heap.size 5 i0 (.int .u8 0) 1 Try.underlying23 hi hz0 hz1 .i64 .i64 _ _ s.size rfl rfl rfl rfl (by rw [hz2]; omega) (by unfold maxLen; omega) (Nat.le_refl _) ?_; intro w1 hown hgr)
  have hbz := (hown.lt w.heap.size rfl).2
  have hb0 := made_buf hown hgr rfl
  clear hown hgr
  go_loopw [4] (fun i wr => ∃ (k : Nat) (M : List UInt8), k ≤ s.size ∧ i = .int .i64 k ∧ Aside (M.length = s.size ∧ ∀ j (hj : j < M.length), j < k → isSp M[j] = true) ∧ Buf w.heap.size w (.slice (some ⟨w.heap.size, 0, none⟩) M.length s.size) M wr ∧ w.heap.size < wr.heap.size)
    (fun i _ => s.size - (intOf i).toNat)
  case atStart => exact ⟨0, _, by omega, rfl, ⟨by simp, fun j _ h => absurd h (by omega)⟩, hb0, hbz⟩
  case round =>
    obtain ⟨k, M, hk, rfl, hA, hb, hlt⟩ := hrel
    clear hb0 hbz
    by_cases hks : k < s.size
    · obtain ⟨x, hc⟩ : ∃ x, wr.cell? ⟨w.heap.size, k, none⟩ = some x := ⟨_, hb.cell k (by have := hA.out.1; omega)⟩
      have hf := hb.own.frozenAt k
      go_wp2
      go_roundw
      case rel =>
        rw [ws_at _ (by omega)]
        exact ⟨k + 1, _, by omega, by go_num, ⟨by rw [List.length_set]; exact hA.out.1, set_sp hA.out.2 (wsn_sp (s[k].toNat % 4))⟩, space_round hb k (wsn (s[k].toNat % 4)), by rw [World.size_setCell]; exact hlt⟩
      case measure => simp [intOf]; omega
    · obtain rfl : k = s.size := by omega
      go_wp2
      go_ret
      refine ⟨M, hA.out.1, ?_, rfl, hb, hlt⟩
      intro x hx
      obtain ⟨j, hj, rfl⟩ := List.getElem_of_mem hx
      exact hA.out.2 j hj (by have := hA.out.1; omega)
end Go.Proofs.Qxb6600666a.Ws
