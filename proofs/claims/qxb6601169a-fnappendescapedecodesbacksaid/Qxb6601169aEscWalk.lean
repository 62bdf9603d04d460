/-
  The walk of FnHex4ReadsAppendEscapeDigits.
-/
import Derived.Test.Qxb6601169aEsc
namespace Go.Proofs.Qxb6601169a.EscWalk
open Go.RowKit Go.Proofs.Qxb6601169a.Buf Go.Proofs.Qxb6601169a.Base Go.Proofs.Qxb6601169a.Hex Go.Proofs.Qxb6601169a.Esc

theorem u8_of {a : Int} (h : (Lit.int .u8 a).wf = true) : ∃ c : UInt8, a = (c.toNat : Int) := by
  have hb : 0 ≤ a ∧ a ≤ 255 := by simpa [Lit.wf, IntKind.min, IntKind.max, IntKind.bits, IntKind.signed] using h
  exact ⟨UInt8.ofNat a.toNat, by simp; omega⟩

theorem lo_ok (v : Nat) (h : v < 16) : isHex (lo v) ∧ hv (lo v) = v := by
  match v, h with
  | 0, _ | 1, _ | 2, _ | 3, _ | 4, _ | 5, _ | 6, _ | 7, _ | 8, _ | 9, _ | 10, _ | 11, _ | 12, _ | 13, _ | 14, _ | 15, _ => unfold isHex; decide
  | _ + 16, h => exact absurd h (by omega)

theorem esc_cases (c : UInt8) : (∃ x, esc c = [92, x]) ∨ esc c = [92, 117, 48, 48, lo (c.toNat / 16), lo (c.toNat % 16)] := by
  unfold esc
  split
  · exact .inl ⟨_, rfl⟩
  split
  · exact .inl ⟨_, rfl⟩
  split
  · exact .inl ⟨_, rfl⟩
  split
  · exact .inl ⟨_, rfl⟩
  split
  · exact .inl ⟨_, rfl⟩
  split
  · exact .inl ⟨_, rfl⟩
  split
  · exact .inl ⟨_, rfl⟩
  · exact .inr rfl

theorem digs_ok (c : UInt8) : (∀ x ∈ [48, 48, lo (c.toNat / 16), lo (c.toNat % 16)], isHex x) ∧ rd [48, 48, lo (c.toNat / 16), lo (c.toNat % 16)] = c.toNat := by
  have hc : c.toNat < 256 := c.toNat_lt
  have h1 := lo_ok (c.toNat / 16) (by omega)
  have h2 := lo_ok (c.toNat % 16) (by omega)
  refine ⟨?_, ?_⟩
  · intro x hx
    have hz : isHex 48 := by unfold isHex; decide
    simp only [List.mem_cons, List.not_mem_nil, or_false] at hx
    rcases hx with rfl | rfl | rfl | rfl
    · exact hz
    · exact hz
    · exact h1.1
    · exact h2.1
  · unfold rd
    simp only [List.foldl_cons, List.foldl_nil, h1.2, h2.2]
    have : hv 48 = 0 := by decide
    rw [this]; omega

theorem walk (a0 : Int) (w0 : (Lit.int .u8 a0).wf = true) (w : World) :
    Calls Try.prog 8 #[.int .u8 a0] w fun e w' => e = .returned (.bool true) ∧ Below w.heap.size w w' := by
  obtain ⟨c, rfl⟩ := u8_of w0
  clear w0
  have HZ : Hid (Calls Try.prog 18 #[.slice none 0 0, .int .u8 c.toNat] w fun e w' => ∃ v', e = .returned v' ∧ Buf w.heap.size w v' (esc c) w') := zzesc_any c w
  have hcl : c.toNat < 256 := c.toNat_lt
  rcases esc_cases c with ⟨x, he⟩ | he
  · have HE := (show Hid (esc c = [92, x]) from he)
    clear he
    go_enter Try.func8, Try.ntmps8
    go_wp2_with fail
    refine HZ.out.mono ?_
    rintro e w1 ⟨v1, rfl, hb1⟩
    rw [HE.out] at hb1
    obtain ⟨g, cp, hv1, hc1, hc2⟩ := form2 hb1 (by simp)
    have hv2 : v1 = .slice (some ⟨g, 0, none⟩) 2 cp := hv1
    clear hv1
    subst hv2
    go_wp2_with fail
    go_ret
    exact ⟨rfl, hb1.below⟩
  · have HE := (show Hid (esc c = [92, 117, 48, 48, lo (c.toNat / 16), lo (c.toNat % 16)]) from he)
    clear he
    go_enter Try.func8, Try.ntmps8
    go_wp2_with fail
    refine HZ.out.mono ?_
    rintro e w1 ⟨v1, rfl, hb1⟩
    rw [HE.out] at hb1
    obtain ⟨g, cp, hv1, hc1, hc2⟩ := form2 hb1 (by simp)
    have hv2 : v1 = .slice (some ⟨g, 0, none⟩) 6 cp := hv1
    have hc6 : 6 ≤ cp := hc1
    clear hv1 hc1
    subst hv2
    have hcell : ∀ j (h : j < 6), w1.cell? ⟨g, j, none⟩ = some (.int .u8 (([92, 117, 48, 48, lo (c.toNat / 16), lo (c.toNat % 16)][j]'h).toNat : Int)) := fun j h => Buf.cell (L := [92, 117, 48, 48, lo (c.toNat / 16), lo (c.toNat % 16)]) hb1 j h
    have hu : w1.cell? ⟨g, 1, none⟩ = some (.int .u8 117) := hcell 1 (by omega)
    have hds : ∀ j (h : j < 4), w1.cell? ⟨g, 2 + j, none⟩ = some (.int .u8 (([48, 48, lo (c.toNat / 16), lo (c.toNat % 16)][j]'h).toNat : Int)) := by
      intro j h
      have := hcell (2 + j) (by omega)
      rw [this]
      match j, h with
      | 0, _ | 1, _ | 2, _ | 3, _ => rfl
    have hdo := digs_ok c
    have HX : Hid (Calls Try.prog 17 #[.slice (some ⟨g, 2, none⟩) 4 (cp - 2)] w1 fun e w' => e = .returned (.tuple #[.int .i32 c.toNat, .bool true]) ∧ w1 = w') := by
      have := zzhex4_full g 2 4 (cp - 2) w1 (by omega) (by omega) (by omega) _ rfl hdo.1 hds
      rw [hdo.2] at this
      exact this
    clear hcell hds hdo
    unfold maxLen at hc2
    go_wp2_with fail
    refine HX.out.mono ?_
    rintro e w2 ⟨rfl, rfl⟩
    go_wp2_with fail
    go_ret
    refine ⟨?_, hb1.below⟩
    first | rfl | (simp; done)
end Go.Proofs.Qxb6601169a.EscWalk
