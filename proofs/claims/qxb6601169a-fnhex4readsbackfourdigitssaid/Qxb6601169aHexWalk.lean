/-
  The walk of FnHex4ReadsBackFourDigits.
-/
import Derived.Test.Qxb6601169aHex
import Derived.Test.Qxb6601169aBase
namespace Go.Proofs.Qxb6601169a.HexWalk
open Go.RowKit Go.Proofs.Qxb6601169a.Buf Go.Proofs.Qxb6601169a.Base Go.Proofs.Qxb6601169a.Hex

theorem rd_foldl (l : List UInt8) : ∀ a : Nat, l.foldl (fun r c => r * 16 + hv c) a = a * 16 ^ l.length + rd l := by
  unfold rd
  induction l with
  | nil => intro a; simp
  | cons x l ih =>
    intro a
    rw [List.foldl_cons, List.foldl_cons, ih, ih (0 * 16 + hv x), List.length_cons, Nat.pow_succ, Nat.zero_mul, Nat.zero_add, Nat.add_mul, Nat.mul_assoc, Nat.mul_comm 16 (16 ^ l.length)]
    omega

theorem rd_cons (x : UInt8) (l : List UInt8) : rd (x :: l) = hv x * 16 ^ l.length + rd l := by
  show (x :: l).foldl _ 0 = _
  rw [List.foldl_cons, rd_foldl]; simp

/-- The digits from place q on are written; V is what is left of r. -/
def Dig (r q V : Nat) (D : List UInt8) : Prop := D.length = 4 ∧ V = r / 16 ^ (4 - q) ∧ (∀ c ∈ D.drop q, isHex c) ∧ rd (D.drop q) = r % 16 ^ (4 - q)

theorem dig_step (r p V : Nat) (D : List UInt8) (up : Bool) (hp : p < 4) (h : Dig r (p + 1) V D) : Dig r p (V / 16) (D.set p (hdig (V % 16) up)) := by
  obtain ⟨hl, hV, hh, hr⟩ := h
  have hx := hdig_ok (V % 16) up (Nat.mod_lt _ (by omega))
  have hdrop : (D.set p (hdig (V % 16) up)).drop p = hdig (V % 16) up :: D.drop (p + 1) := by
    rw [List.drop_eq_getElem_cons (by rw [List.length_set]; omega), List.getElem_set_self, List.drop_set_of_lt (by omega)]
  refine ⟨by rw [List.length_set]; exact hl, ?_, ?_, ?_⟩
  · rw [hV]
    match p, hp with
    | 0, _ | 1, _ | 2, _ | 3, _ => simp <;> omega
  · rw [hdrop]
    intro c hc
    rcases List.mem_cons.1 hc with rfl | hc
    · exact hx.1
    · exact hh c hc
  · rw [hdrop, rd_cons, hx.2, hr, List.length_drop, hl, hV]
    match p, hp with
    | 0, _ | 1, _ | 2, _ | 3, _ => simp; omega

theorem dig_done (r V : Nat) (D : List UInt8) (hr : r ≤ 65535) (h : Dig r 0 V D) : D.length = 4 ∧ (∀ c ∈ D, isHex c) ∧ rd D = r := by
  obtain ⟨hl, _, hh, hd⟩ := h
  rw [List.drop_zero] at hh hd
  exact ⟨hl, hh, by rw [hd]; simp; omega⟩

theorem set_buf {B n : Nat} {w wr : World} {D : List UInt8} (hl : D.length = 4) (h : Buf B w (.slice (some ⟨B, 0, none⟩) 4 n) D wr) (k : Nat) (c : UInt8) :
    Buf B w (.slice (some ⟨B, 0, none⟩) 4 n) (D.set k c) (wr.setCell ⟨B, k, none⟩ (.int .u8 c.toNat)) := by
  have ho := h.own
  rw [hl] at ho
  have hst := ho.stored k (bv c)
  refine ⟨?_, h.below.setCell (Nat.le_refl _) _, by rw [World.size_setCell]; exact h.base⟩
  rw [List.length_set, hl, List.map_set]
  exact hst.1

set_option maxHeartbeats 1000000 in
theorem walk_main (r : Nat) (up : Bool) (a : Option Addr) (n cap : Nat) (M : List UInt8) (w : World) (hr : r ≤ 65535) (hn : n ≤ 1048576) (hs : Src w a n cap M) :
    Calls Try.prog 6 #[.int .i32 r, .bool up, .slice a n cap] w fun e w' => e = .returned (.bool true) ∧ Below w.heap.size w w' := by
  obtain ⟨i0, hi, hz0, hz1, hz2⟩ := info_parts Try.info5
  have HS := (show Hid (Src w a n cap M) from hs)
  clear hs
  go_enter Try.func6, Try.ntmps6
  go_wp2_with (first
    | (go_at_call 15; go_in)
    | (at_make; refine buf_make_len rfl (.const (.int .i64 4)) (.tmp 29) 22 rfl i0 Try.underlying22 hi hz0 hz1 hz2 .i64 .i64 _ _ 4 (4 + n) rfl rfl rfl (by omega) (by omega) (by omega) ?_; intro w1 hb1 hl1))
  go_loopg [8, 9] 4 (fun g v k wr => ∃ (q V : Nat) (D : List UInt8), q ≤ 4 ∧ g = q ∧ k = .int .i64 ((q : Int) - 1) ∧ v = .int .i64 V ∧ V ≤ 65535 ∧ Aside (Dig r q V D) ∧ Buf w.heap.size w (.slice (some ⟨w.heap.size, 0, none⟩) 4 (4 + n)) D wr)
  case atStart => exact ⟨4, r, _, by omega, rfl, rfl, rfl, hr, ⟨rfl, by simp, by simp, by simp [rd]; omega⟩, hb1⟩
  case round =>
    obtain ⟨q, V, D, hq, hg, rfl, rfl, hV, hD, hb⟩ := hrel
    have HGQ := (show Hid (gk = q) from hg)
    clear hg hb1
    cases q with
    | zero =>
      have e1 : (((0 : Nat) : Int) - 1) = -1 := by omega
      rw [e1]
      clear e1
      obtain ⟨hl4, hh4, hrd⟩ := dig_done r V D hr hD.out
      have hlen := HS.out.len
      have HL4 := (show Hid (D.length = 4) from hl4)
      have HRD := (show Hid (rd D = r) from hrd)
      have hlx : D.length + M.length ≤ 1000000000 := by omega
      have HLM := (show Hid (M.length = n) from hlen)
      clear hl4 hrd hD hlen
      go_wp2_with (at_builtin; refine buf_src rfl (.tmp 47) (.tmp 48) 22 rfl i0 Try.underlying22 hi hz0 hz1 hz2 w.heap.size w _ D rfl hb a n cap M rfl HLM.out HS.out.nil (HS.out.later hb.below).cell hlx ?_; intro v2 w2 hb2; obtain ⟨g, cp, hv2, hc1, hc2⟩ := form2 hb2 (by rw [List.length_append, HL4.out]; omega); subst hv2)
      have hcd : ∀ j (h : j < 4), w2.cell? ⟨g, 0 + j, none⟩ = some (.int .u8 ((D[j]'(by rw [HL4.out]; exact h)).toNat : Int)) := by
        intro j h
        have hj : j < D.length := by rw [HL4.out]; exact h
        rw [Nat.zero_add, hb2.cell j (by rw [List.length_append]; omega), List.getElem_append_left hj]
      refine (zzhex4_full g 0 (D.length + M.length) cp w2 (by rw [HL4.out]; omega) (by rw [← List.length_append]; exact hc1) hc2 D HL4.out hh4 hcd).mono ?_
      rintro e w3 ⟨rfl, rfl⟩
      rw [HRD.out]
      clear hcd hh4
      go_wp2_with fail
      go_ret
      refine ⟨?_, hb2.below⟩
      first | rfl | (simp; done)
    | succ p =>
      have e1 : (((p + 1 : Nat) : Int) - 1) = (p : Int) := by omega
      rw [e1]
      clear e1
      have hlD := hD.out.1
      have ho := hb.own
      rw [hlD] at ho
      obtain ⟨x, hc⟩ : ∃ x, wr.cell? ⟨w.heap.size, p, none⟩ = some x := ⟨_, (ho.cellAt p (by omega)).trans (List.getElem?_eq_getElem (by rw [List.length_map]; omega))⟩
      have hf := ho.frozenAt p
      clear ho
      have HLD := (show Hid (D.length = 4) from hlD)
      clear hlD
      go_wp2_with (first
          | (go_at_call 16; refine (hexDigit_any _ _ _ (by omega) (by omega)).mono ?_; rintro e w4 ⟨rfl, rfl⟩))
      go_roundg p
      case measure => rw [HGQ.out]; omega
      case rel => exact ⟨p, V / 16, _, by omega, rfl, by go_num, by go_num, by omega, dig_step r p V D up (by omega) hD.out, set_buf HLD.out hb p _⟩

theorem walk (a0 : Int) (a1 : Bool) (a2 : Option Addr) (len2 cap2 : Nat) (z2 : List Int) (w : World) (w2 : IsRow .u8 w a2 len2 cap2 z2) :
    Calls Try.prog 6 #[.int .i32 a0, .bool a1, .slice a2 len2 cap2] w fun e w' => e = .returned (.bool true) ∧ Below w.heap.size w w' := by
  obtain ⟨M, hM⟩ := src_of w2
  have hlm : len2 ≤ maxLen := Nat.le_trans hM.le hM.cm
  unfold maxLen at hlm
  clear w2
  by_cases h0 : len2 ≤ 1048576
  · by_cases h1 : a0 < 0
    · clear hM
      go_enter Try.func6, Try.ntmps6
      go_wp2
      go_ret
      exact ⟨rfl, Below.refl _ _⟩
    · by_cases h2 : a0 ≤ 65535
      · obtain ⟨r, rfl⟩ : ∃ r : Nat, a0 = (r : Int) := ⟨a0.toNat, by omega⟩
        exact walk_main r a1 a2 len2 cap2 M w (by omega) h0 hM
      · clear hM
        go_enter Try.func6, Try.ntmps6
        go_wp2
        go_ret
        exact ⟨rfl, Below.refl _ _⟩
  · have h0' : (1048576 : Int) < (len2 : Int) := by omega
    clear hM
    go_enter Try.func6, Try.ntmps6
    go_wp2
    go_ret
    exact ⟨rfl, Below.refl _ _⟩
end Go.Proofs.Qxb6601169a.HexWalk
