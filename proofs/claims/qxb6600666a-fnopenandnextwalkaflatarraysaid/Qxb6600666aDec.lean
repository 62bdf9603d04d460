/-
  The walks of token's decoder: at, skipSpace, next, open; ZZNext, ZZOpen.
-/
import Derived.Test.Qxb6600666aProg
import Derived.Test.Qxb6600666aPlain
import Derived.WalkKit
import Derived.WalkSpells
import Derived.WalkSmall
import Derived.Deep.LoopGhost
import Derived.Deep.QuietTactic
import Derived.BigQuiet
namespace Go.Proofs.Qxb6600666a.Dec
open Go.RowKit Go.Proofs.Qxb6600666a.Plain

/-- The decoder at block b: its text, its place. -/
structure Dec (w : World) (b : Nat) (t : ByteArray) (p : Nat) : Prop where
  text : w.cell? ⟨b, 0, none⟩ = some (.string t)
  pos : w.cell? ⟨b, 1, none⟩ = some (.int .i64 p)
  free : w.frozen? ⟨b, 1, none⟩ = false

theorem at_any (b p : Nat) (t : ByteArray) (c : UInt8) (w : World) (hd : Dec w b t p) :
    Calls Try.prog 26 #[.pointer (some ⟨b, 0, none⟩), .int .u8 c.toNat] w fun e w' => e = .returned (.bool (atB t.data.toList p c)) ∧ ∃ n, w' = w.drewN n := by
  obtain ⟨h1, h2, h3⟩ := hd
  have hl : t.data.toList.length = t.size := rfl
  by_cases hlt : p < t.size
  · have hlt' : (p : Int) < (t.size : Int) := by omega
    go_enter Try.func26, Try.ntmps26
    go_wp2
    go_quiet (fail)
    go_wp2
    go_ret
    exact ⟨by rw [atB_lt (by omega)]; rfl, _, rfl⟩
  · have hlt' : decide ((p : Int) < (t.size : Int)) = false := by simp; omega
    go_enter Try.func26, Try.ntmps26
    go_wp2
    go_quiet (fail)
    go_wp2
    go_ret
    exact ⟨by rw [atB_ge (by omega)]; rfl, _, rfl⟩

theorem Dec.drewN {w : World} {b p : Nat} {t : ByteArray} (h : Dec w b t p) (n : Nat) : Dec (w.drewN n) b t p := ⟨h.text, h.pos, h.free⟩

theorem Dec.step {w : World} {b p : Nat} {t : ByteArray} (h : Dec w b t p) (q : Nat) : Dec (w.setCell ⟨b, 1, none⟩ (.int .i64 q)) b t q :=
  ⟨(World.cell?_setCell_other w _ _ _ (by simp)).trans h.text, World.cell?_setCell_same w _ _ h.pos, by rw [World.frozen?_setCell]; exact h.free⟩

/-- What a round of skipSpace leaves. -/
theorem round_dec {w wr : World} {b k n : Nat} {t : ByteArray} (h : Dec wr b t k) (hb : Below b w wr) (hz : b < wr.heap.size) :
    Dec ((wr.drewN n).setCell ⟨b, 1, none⟩ (.int .i64 ((k : Int) + 1))) b t (k + 1) ∧ Below b w ((wr.drewN n).setCell ⟨b, 1, none⟩ (.int .i64 ((k : Int) + 1))) ∧
      b < ((wr.drewN n).setCell ⟨b, 1, none⟩ (.int .i64 ((k : Int) + 1))).heap.size :=
  ⟨(h.drewN n).step (k + 1), (below_drewN hb n).setCell (Nat.le_refl _) _, by rw [World.size_setCell]; exact hz⟩

theorem sp_at (t : ByteArray) (k : Nat) (h : k < t.size) (hs : (t[k].toNat : Int) = 32 ∨ (t[k].toNat : Int) = 9 ∨ (t[k].toNat : Int) = 10 ∨ (t[k].toNat : Int) = 13) :
    sk t.data.toList (k + 1) = sk t.data.toList k := sk_go _ _ h ((isSp_iff _).2 hs)

theorem sp_not (t : ByteArray) (k : Nat) (h : k < t.size) (h0 : ((t[k].toNat : Int) == 32) = false) (h1 : ((t[k].toNat : Int) == 9) = false) (h2 : ((t[k].toNat : Int) == 10) = false) (h3 : ((t[k].toNat : Int) == 13) = false) :
    sk t.data.toList k = k := by
  simp only [beq_eq_false_iff_ne] at h0 h1 h2 h3
  exact sk_stop _ _ h (isSp_not h0 h1 h2 h3)

theorem skip_any (b p : Nat) (t : ByteArray) (w : World) (hd : Dec w b t p) (ht : t.size ≤ maxLen) (hp : p ≤ t.size + 1) (hb : b < w.heap.size) :
    Calls Try.prog 25 #[.pointer (some ⟨b, 0, none⟩)] w fun e w' => e = .returned (.tuple #[]) ∧ Dec w' b t (sk t.data.toList p) ∧ Below b w w' := by
  unfold maxLen at ht
  have hl : t.data.toList.length = t.size := rfl
  go_enter Try.func25, Try.ntmps25
  go_wp2
  go_loopg [] (t.size + 1 - p) (fun g wr => ∃ k : Nat, k ≤ t.size + 1 ∧ g = t.size + 1 - k ∧ Dec wr b t k ∧ Aside (sk t.data.toList k = sk t.data.toList p) ∧ Below b w wr ∧ b < wr.heap.size)
  case atStart => exact ⟨p, hp, rfl, hd, rfl, Below.refl _ _, hb⟩
  case round =>
    obtain ⟨k, hk, hg, ⟨h1, h2, h3⟩, hs, hbl, hbz⟩ := hrel
    have HG : Hid (gk = t.size + 1 - k) := hg
    clear hg hd
    by_cases hlt : k < t.size
    · have hlt' : (k : Int) < (t.size : Int) := by omega
      go_wp2
      go_quiet (fail)
      go_wp2
      go_quiet (fail)
      go_wp2
      iterate 4
        rotate_left
      · refine bodyPost_ret (results_none rfl _ _ _) rfl ?_
        refine ⟨rfl, ?_, below_drewN hbl _⟩
        have := hs.out
        rw [← this, sp_not t k hlt (by assumption) (by assumption) (by assumption) (by assumption)]
        exact (Dec.mk h1 h2 h3).drewN _
      all_goals
        have hsp : sk t.data.toList (k + 1) = sk t.data.toList k := by
          refine sp_at t k hlt ?_
          first
            | (have hh : ((t[k].toNat : Int) == 32) = true := by assumption
               simp only [beq_iff_eq] at hh; omega)
            | (have hh : ((t[k].toNat : Int) == 9) = true := by assumption
               simp only [beq_iff_eq] at hh; omega)
            | (have hh : ((t[k].toNat : Int) == 10) = true := by assumption
               simp only [beq_iff_eq] at hh; omega)
            | (have hh : ((t[k].toNat : Int) == 13) = true := by assumption
               simp only [beq_iff_eq] at hh; omega)
        go_roundg (t.size + 1 - (k + 1))
        case measure => rw [HG.out]; omega
        exact ⟨k + 1, by omega, rfl, (round_dec (Dec.mk h1 h2 h3) hbl hbz).1, hsp.trans hs.out, (round_dec (Dec.mk h1 h2 h3) hbl hbz).2.1, (round_dec (Dec.mk h1 h2 h3) hbl hbz).2.2⟩
    · have hlt' : decide ((k : Int) < (t.size : Int)) = false := by simp; omega
      go_wp2
      go_quiet (fail)
      go_wp2
      go_end0
      refine ⟨rfl, ?_, below_drewN hbl _⟩
      have := hs.out
      rw [← this, sk_end _ _ (by omega)]
      exact (Dec.mk h1 h2 h3).drewN _

/-- What 'next' leaves at the decoder at block b. -/
def NextPost (w : World) (b : Nat) (t : ByteArray) (r : Nat × Bool × Bool) (e : Ending) (w' : World) : Prop :=
  e = .returned (.tuple #[.bool r.2.1, .bool r.2.2]) ∧ Dec w' b t r.1 ∧ Below b w w'

/-- A store of the next place, behind draws. -/
theorem after_dec {w w1 : World} {b q n : Nat} {t : ByteArray} (h : Dec w1 b t q) (hb : Below b w w1) :
    Dec ((w1.drewN n).setCell ⟨b, 1, none⟩ (.int .i64 ((q : Int) + 1))) b t (q + 1) ∧ Below b w ((w1.drewN n).setCell ⟨b, 1, none⟩ (.int .i64 ((q : Int) + 1))) :=
  ⟨(h.drewN n).step (q + 1), (below_drewN hb n).setCell (Nat.le_refl _) _⟩

theorem next_end (b p : Nat) (t : ByteArray) (c : UInt8) (w : World) (hd : Dec w b t p) (ht : t.size ≤ 1000000000) (hp : p ≤ t.size + 1) (hb : b < w.heap.size)
    (h : atB t.data.toList (sk t.data.toList p) c = true) :
    Calls Try.prog 23 #[.pointer (some ⟨b, 0, none⟩), .int .u8 c.toNat] w (NextPost w b t (nx t.data.toList p c)) := by
  have hl : t.data.toList.length = t.size := rfl
  have hq := atB_true h
  rw [hl] at hq
  go_enter Try.func23, Try.ntmps23
  go_wp2_with fail
  refine (skip_any b p t w hd (by unfold maxLen; omega) hp hb).mono ?_
  rintro e w1 ⟨rfl, hd1, hb1⟩
  go_wp2_with fail
  refine (at_any b _ t c w1 hd1).mono ?_
  rintro e w2 ⟨rfl, n, rfl⟩
  obtain ⟨h1, h2, h3⟩ := hd1.drewN n
  go_wp2_with fail
  go_ret2
  refine ⟨by rw [nx_end h]; rfl, ?_, ?_⟩
  · rw [nx_end h]; exact (after_dec hd1 hb1).1
  · exact (after_dec hd1 hb1).2

theorem next_comma (b p : Nat) (t : ByteArray) (c : UInt8) (w : World) (hd : Dec w b t p) (ht : t.size ≤ 1000000000) (hp : p ≤ t.size + 1) (hb : b < w.heap.size)
    (h : atB t.data.toList (sk t.data.toList p) c = false) (h' : atB t.data.toList (sk t.data.toList p) 44 = true) :
    Calls Try.prog 23 #[.pointer (some ⟨b, 0, none⟩), .int .u8 c.toNat] w (NextPost w b t (nx t.data.toList p c)) := by
  have hl : t.data.toList.length = t.size := rfl
  have hq := atB_true h'
  rw [hl] at hq
  go_enter Try.func23, Try.ntmps23
  go_wp2_with fail
  refine (skip_any b p t w hd (by unfold maxLen; omega) hp hb).mono ?_
  rintro e w1 ⟨rfl, hd1, hb1⟩
  go_wp2_with fail
  refine (at_any b _ t c w1 hd1).mono ?_
  rintro e w2 ⟨rfl, n, rfl⟩
  go_wp2_with fail
  refine (at_any b _ t 44 _ (hd1.drewN n)).mono ?_
  rintro e w2 ⟨rfl, n2, rfl⟩
  obtain ⟨h1, h2, h3⟩ := hd1.drewN (n + n2)
  go_wp2_with fail
  refine (skip_any b (sk t.data.toList p + 1) t _ (by exact (after_dec (n := n + n2) hd1 hb1).1) (by unfold maxLen; omega) (by omega) (by rw [World.size_setCell]; have := hb1.size; show b < w1.heap.size; omega)).mono ?_
  rintro e w3 ⟨rfl, hd3, hb3⟩
  go_wp2_with fail
  go_ret2
  refine ⟨by rw [nx_comma h h']; rfl, ?_, ?_⟩
  · rw [nx_comma h h']; exact hd3
  · exact ((after_dec (n := n + n2) hd1 hb1).2).trans hb3

theorem next_no (b p : Nat) (t : ByteArray) (c : UInt8) (w : World) (hd : Dec w b t p) (ht : t.size ≤ 1000000000) (hp : p ≤ t.size + 1) (hb : b < w.heap.size)
    (h : atB t.data.toList (sk t.data.toList p) c = false) (h' : atB t.data.toList (sk t.data.toList p) 44 = false) :
    Calls Try.prog 23 #[.pointer (some ⟨b, 0, none⟩), .int .u8 c.toNat] w (NextPost w b t (nx t.data.toList p c)) := by
  go_enter Try.func23, Try.ntmps23
  go_wp2_with fail
  refine (skip_any b p t w hd (by unfold maxLen; omega) hp hb).mono ?_
  rintro e w1 ⟨rfl, hd1, hb1⟩
  go_wp2_with fail
  refine (at_any b _ t c w1 hd1).mono ?_
  rintro e w2 ⟨rfl, n, rfl⟩
  go_wp2_with fail
  refine (at_any b _ t 44 _ (hd1.drewN n)).mono ?_
  rintro e w2 ⟨rfl, n2, rfl⟩
  go_wp2_with fail
  go_ret2
  refine ⟨by rw [nx_no h h']; rfl, ?_, ?_⟩
  · rw [nx_no h h']; exact hd1.drewN (n + n2)
  · exact below_drewN hb1 (n + n2)

theorem next_any (b p : Nat) (t : ByteArray) (c : UInt8) (w : World) (hd : Dec w b t p) (ht : t.size ≤ 1000000000) (hp : p ≤ t.size + 1) (hb : b < w.heap.size) :
    Calls Try.prog 23 #[.pointer (some ⟨b, 0, none⟩), .int .u8 c.toNat] w (NextPost w b t (nx t.data.toList p c)) := by
  cases h : atB t.data.toList (sk t.data.toList p) c with
  | true => exact next_end b p t c w hd ht hp hb h
  | false =>
    cases h' : atB t.data.toList (sk t.data.toList p) 44 with
    | true => exact next_comma b p t c w hd ht hp hb h h'
    | false => exact next_no b p t c w hd ht hp hb h h'

theorem open_end (b p : Nat) (t : ByteArray) (d : Int) (c : UInt8) (w : World) (hd : Dec w b t p) (ht : t.size ≤ 1000000000) (hp : p ≤ t.size) (hb : b < w.heap.size) (hdep : d ≤ 10000)
    (h : atB t.data.toList (sk t.data.toList (p + 1)) c = true) :
    Calls Try.prog 24 #[.pointer (some ⟨b, 0, none⟩), .int .i64 d, .int .u8 c.toNat] w (NextPost w b t (op t.data.toList p c)) := by
  have hl : t.data.toList.length = t.size := rfl
  have hq := atB_true h
  rw [hl] at hq
  obtain ⟨g1, g2, g3⟩ := hd
  go_enter Try.func24, Try.ntmps24
  go_wp2_with fail
  refine (skip_any b (p + 1) t _ (by exact (Dec.mk g1 g2 g3).step (p + 1)) (by unfold maxLen; omega) (by omega) (by rw [World.size_setCell]; exact hb)).mono ?_
  rintro e w1 ⟨rfl, hd1, hb1⟩
  go_wp2_with fail
  refine (at_any b _ t c w1 hd1).mono ?_
  rintro e w2 ⟨rfl, n, rfl⟩
  obtain ⟨h1, h2, h3⟩ := hd1.drewN n
  go_wp2_with fail
  go_ret2
  refine ⟨by rw [op_end h]; rfl, ?_, ?_⟩
  · rw [op_end h]; exact (after_dec hd1 hb1).1
  · exact ((Below.refl b w).setCell (Nat.le_refl _) _).trans (after_dec hd1 hb1).2

theorem open_no (b p : Nat) (t : ByteArray) (d : Int) (c : UInt8) (w : World) (hd : Dec w b t p) (ht : t.size ≤ 1000000000) (hp : p ≤ t.size) (hb : b < w.heap.size) (hdep : d ≤ 10000)
    (h : atB t.data.toList (sk t.data.toList (p + 1)) c = false) :
    Calls Try.prog 24 #[.pointer (some ⟨b, 0, none⟩), .int .i64 d, .int .u8 c.toNat] w (NextPost w b t (op t.data.toList p c)) := by
  obtain ⟨g1, g2, g3⟩ := hd
  go_enter Try.func24, Try.ntmps24
  go_wp2_with fail
  refine (skip_any b (p + 1) t _ (by exact (Dec.mk g1 g2 g3).step (p + 1)) (by unfold maxLen; omega) (by omega) (by rw [World.size_setCell]; exact hb)).mono ?_
  rintro e w1 ⟨rfl, hd1, hb1⟩
  go_wp2_with fail
  refine (at_any b _ t c w1 hd1).mono ?_
  rintro e w2 ⟨rfl, n, rfl⟩
  go_wp2_with fail
  go_ret2
  refine ⟨by rw [op_no h]; rfl, ?_, ?_⟩
  · rw [op_no h]; exact hd1.drewN n
  · exact ((Below.refl b w).setCell (Nat.le_refl _) _).trans (below_drewN hb1 n)

theorem open_any (b p : Nat) (t : ByteArray) (d : Int) (c : UInt8) (w : World) (hd : Dec w b t p) (ht : t.size ≤ 1000000000) (hp : p ≤ t.size) (hb : b < w.heap.size) (hdep : d ≤ 10000) :
    Calls Try.prog 24 #[.pointer (some ⟨b, 0, none⟩), .int .i64 d, .int .u8 c.toNat] w (NextPost w b t (op t.data.toList p c)) := by
  cases h : atB t.data.toList (sk t.data.toList (p + 1)) c with
  | true => exact open_end b p t d c w hd ht hp hb hdep h
  | false => exact open_no b p t d c w hd ht hp hb hdep h

theorem new_dec (w : World) (t : ByteArray) (p : Nat) : Dec (w.alloc (.cells #[.string t, .int .i64 p] 42)) w.heap.size t p :=
  ⟨by rw [World.cell?_alloc_new]; rfl, by rw [World.cell?_alloc_new]; rfl, World.frozen?_alloc_new _ _ _ _⟩

/-- What ZZNext and ZZOpen hand back. -/
def ZZPost (w : World) (r : Nat × Bool × Bool) (e : Ending) (w' : World) : Prop :=
  e = .returned (.tuple #[.int .i64 r.1, .bool r.2.1, .bool r.2.2]) ∧ Below w.heap.size w w'

theorem zznext_any (p : Nat) (t : ByteArray) (c : UInt8) (w : World) (ht : t.size ≤ 1000000000) (hp : p ≤ t.size + 1) :
    Calls Try.prog 16 #[.string t, .int .i64 p, .int .u8 c.toNat] w (ZZPost w (nx t.data.toList p c)) := by
  go_enter Try.func16, Try.ntmps16
  go_wp2_with fail
  refine (next_any w.heap.size p t c _ (by exact new_dec w t p) ht hp (by simp)).mono ?_
  rintro e w1 ⟨rfl, hd1, hb1⟩
  obtain ⟨h1, h2, h3⟩ := hd1
  go_wp2_with fail
  go_ret3
  exact ⟨rfl, ((Below.refl _ w).alloc (Nat.le_refl _) _).trans hb1⟩

theorem zzopen_any (p : Nat) (t : ByteArray) (d : Int) (c : UInt8) (w : World) (ht : t.size ≤ 1000000000) (hp : p ≤ t.size) (hdep : d ≤ 10000) :
    Calls Try.prog 19 #[.string t, .int .i64 p, .int .i64 d, .int .u8 c.toNat] w (ZZPost w (op t.data.toList p c)) := by
  go_enter Try.func19, Try.ntmps19
  go_wp2_with fail
  refine (open_any w.heap.size p t d c _ (by exact new_dec w t p) ht hp (by simp) hdep).mono ?_
  rintro e w1 ⟨rfl, hd1, hb1⟩
  obtain ⟨h1, h2, h3⟩ := hd1
  go_wp2_with fail
  go_ret3
  exact ⟨rfl, ((Below.refl _ w).alloc (Nat.le_refl _) _).trans hb1⟩
end Go.Proofs.Qxb6600666a.Dec
