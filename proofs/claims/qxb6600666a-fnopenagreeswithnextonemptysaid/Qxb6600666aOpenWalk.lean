/-
  The walk of FnOpenAgreesWithNextOnEmpty.
-/
import Derived.Test.Qxb6600666aDec
namespace Go.Proofs.Qxb6600666a.OpenWalk
open Go.RowKit Go.Proofs.Qxb6600666a.Plain Go.Proofs.Qxb6600666a.Dec

theorem u8_of {a : Int} (h : (Lit.int .u8 a).wf = true) : ∃ c : UInt8, a = (c.toNat : Int) := by
  have hb : 0 ≤ a ∧ a ≤ 255 := by simpa [Lit.wf, IntKind.min, IntKind.max, IntKind.bits, IntKind.signed] using h
  exact ⟨UInt8.ofNat a.toNat, by simp; omega⟩

theorem open_r (p : Nat) (t : ByteArray) (d : Int) (c : UInt8) (w : World) (q : Nat) (m o : Bool) (hr : op t.data.toList p c = (q, m, o)) (ht : t.size ≤ 1000000000) (hp : p ≤ t.size) (hdep : d ≤ 10000) :
    Calls Try.prog 19 #[.string t, .int .i64 p, .int .i64 d, .int .u8 c.toNat] w fun e w' => e = .returned (.tuple #[.int .i64 q, .bool m, .bool o]) ∧ Below w.heap.size w w' := by
  have h := zzopen_any p t d c w ht hp hdep
  rw [hr] at h
  exact h

theorem next_r (p : Nat) (z : Int) (t : ByteArray) (c : UInt8) (w : World) (q : Nat) (m o : Bool) (hz : z = p) (hr : nx t.data.toList p c = (q, m, o)) (ht : t.size ≤ 1000000000) (hp : p ≤ t.size + 1) :
    Calls Try.prog 16 #[.string t, .int .i64 z, .int .u8 c.toNat] w fun e w' => e = .returned (.tuple #[.int .i64 q, .bool m, .bool o]) ∧ Below w.heap.size w w' := by
  subst hz
  have h := zznext_any p t c w ht hp
  rw [hr] at h
  exact h

theorem walk_main (t : ByteArray) (p : Nat) (d : Int) (c : UInt8) (w : World) (ht : t.size ≤ 1048576) (hp : p ≤ t.size) (hd : d ≤ 10000)
    (q q' : Nat) (m m' o' : Bool) (ho : op t.data.toList p c = (q, m, true)) (hn : nx t.data.toList (p + 1) c = (q', m', o'))
    (hall : (m = false ∧ q' = q ∧ m' = false ∧ o' = true) ∨ (m = true ∧ o' = true ∧ m' = true) ∨ (m = true ∧ o' = false)) :
    Calls Try.prog 7 #[.string t, .int .i64 p, .int .i64 d, .int .u8 c.toNat] w fun e w' => e = .returned (.bool true) ∧ Below w.heap.size w w' := by
  have hp' : (p : Int) ≤ (t.size : Int) := by omega
  have HO : Hid (op t.data.toList p c = (q, m, true)) := ho
  have HN : Hid (nx t.data.toList (p + 1) c = (q', m', o')) := hn
  clear ho hn
  rcases hall with ⟨rfl, rfl, rfl, rfl⟩ | ⟨rfl, rfl, rfl⟩ | ⟨rfl, rfl⟩
  all_goals
    go_enter Try.func7, Try.ntmps7
    go_wp2_with (first | (go_at_call 18; go_in) | fail)
    refine (open_r p t d c _ _ _ _ HO.out (by omega) hp hd).mono ?_
    rintro e w1 ⟨rfl, hb1⟩
    go_wp2_with fail
    refine (next_r (p + 1) _ t c _ _ _ _ (by omega) HN.out (by omega) (by omega)).mono ?_
    rintro e w2 ⟨rfl, hb2⟩
    go_wp2_with fail
    go_ret
    refine ⟨?_, hb1.trans (hb2.mono hb1.size)⟩
    first | rfl | (simp; done)

theorem walk (a0 : ByteArray) (a1 : Int) (a2 : Int) (a3 : Int) (w0 : a0.size ≤ maxLen) (w3 : (Lit.int .u8 a3).wf = true) (w : World) :
    Calls Try.prog 7 #[.string a0, .int .i64 a1, .int .i64 a2, .int .u8 a3] w fun e w' => e = .returned (.bool true) ∧ Below w.heap.size w w' := by
  unfold maxLen at w0
  by_cases h0 : a0.size ≤ 1048576
  · by_cases h1 : a1 < 0
    · go_enter Try.func7, Try.ntmps7
      go_wp2
      go_ret
      exact ⟨rfl, Below.refl _ _⟩
    · by_cases h2 : a1 ≤ (a0.size : Int)
      · by_cases h3 : a2 ≤ 10000
        · obtain ⟨c, rfl⟩ := u8_of w3
          obtain ⟨p, rfl⟩ : ∃ p : Nat, a1 = (p : Int) := ⟨a1.toNat, by omega⟩
          cases h : atB a0.data.toList (sk a0.data.toList (p + 1)) c with
          | true => exact walk_main a0 p a2 c w h0 (by omega) h3 _ _ _ _ _ (op_end h) (nx_end h) (Or.inl ⟨rfl, rfl, rfl, rfl⟩)
          | false =>
            cases h' : atB a0.data.toList (sk a0.data.toList (p + 1)) 44 with
            | true => exact walk_main a0 p a2 c w h0 (by omega) h3 _ _ _ _ _ (op_no h) (nx_comma h h') (Or.inr (Or.inl ⟨rfl, rfl, rfl⟩))
            | false => exact walk_main a0 p a2 c w h0 (by omega) h3 _ _ _ _ _ (op_no h) (nx_no h h') (Or.inr (Or.inr ⟨rfl, rfl⟩))
        · go_enter Try.func7, Try.ntmps7
          go_wp2
          go_ret
          exact ⟨rfl, Below.refl _ _⟩
      · go_enter Try.func7, Try.ntmps7
        go_wp2
        go_ret
        exact ⟨rfl, Below.refl _ _⟩
  · have h0' : (1048576 : Int) < (a0.size : Int) := by omega
    go_enter Try.func7, Try.ntmps7
    go_wp2
    go_ret
    exact ⟨rfl, Below.refl _ _⟩
end Go.Proofs.Qxb6600666a.OpenWalk
