/-
  The walks of appendEscape and ZZappendEscape, at a nil slice.
-/
import Derived.Test.Qxb6601169aHex
import Derived.Test.Qxb6601169aBase
import Derived.Deep.RegionLaw
namespace Go.Proofs.Qxb6601169a.Esc
open Go.RowKit Go.Proofs.Qxb6601169a.Buf Go.Proofs.Qxb6601169a.Base Go.Proofs.Qxb6601169a.Hex

theorem esc34 (w : World) : Calls Try.prog 24 #[.slice none 0 0, .int .u8 34] w fun e w' => ∃ v', e = .returned v' ∧ Buf w.heap.size w v' [92, 34] w' := by
  obtain ⟨i0, hi, hz0, hz1, hz2⟩ := info_parts Try.info5
  go_enter Try.func24, Try.ntmps24
  go_wp2_with (at_builtin; refine buf_lit rfl (.tmp 9) (.tmp 11) 22 rfl i0 Try.underlying22 hi hz0 hz1 hz2 w.heap.size w _ [] rfl (nil_buf (Below.refl _ _)) _ 2 [92, 34] rfl rfl rfl (by simp) ?_; intro v1 w1 hb1)
  go_ret
  exact ⟨_, rfl, hb1⟩

theorem esc92 (w : World) : Calls Try.prog 24 #[.slice none 0 0, .int .u8 92] w fun e w' => ∃ v', e = .returned v' ∧ Buf w.heap.size w v' [92, 92] w' := by
  obtain ⟨i0, hi, hz0, hz1, hz2⟩ := info_parts Try.info5
  go_enter Try.func24, Try.ntmps24
  go_wp2_with (at_builtin; refine buf_lit rfl (.tmp 9) (.tmp 11) 22 rfl i0 Try.underlying22 hi hz0 hz1 hz2 w.heap.size w _ [] rfl (nil_buf (Below.refl _ _)) _ 2 [92, 92] rfl rfl rfl (by simp) ?_; intro v1 w1 hb1)
  go_ret
  exact ⟨_, rfl, hb1⟩

theorem esc8 (w : World) : Calls Try.prog 24 #[.slice none 0 0, .int .u8 8] w fun e w' => ∃ v', e = .returned v' ∧ Buf w.heap.size w v' [92, 98] w' := by
  obtain ⟨i0, hi, hz0, hz1, hz2⟩ := info_parts Try.info5
  go_enter Try.func24, Try.ntmps24
  go_wp2_with (at_builtin; refine buf_str rfl (.tmp 15) (.const (.string { data := #[92, 98] })) 22 9 rfl i0 Try.underlying22 Try.underlying9 hi hz0 hz1 hz2 w.heap.size w _ [] rfl (nil_buf (Below.refl _ _)) { data := #[92, 98] } rfl (by decide) ?_; intro v1 w1 hb1)
  go_ret
  exact ⟨_, rfl, hb1⟩

theorem esc12 (w : World) : Calls Try.prog 24 #[.slice none 0 0, .int .u8 12] w fun e w' => ∃ v', e = .returned v' ∧ Buf w.heap.size w v' [92, 102] w' := by
  obtain ⟨i0, hi, hz0, hz1, hz2⟩ := info_parts Try.info5
  go_enter Try.func24, Try.ntmps24
  go_wp2_with (at_builtin; refine buf_str rfl (.tmp 19) (.const (.string { data := #[92, 102] })) 22 9 rfl i0 Try.underlying22 Try.underlying9 hi hz0 hz1 hz2 w.heap.size w _ [] rfl (nil_buf (Below.refl _ _)) { data := #[92, 102] } rfl (by decide) ?_; intro v1 w1 hb1)
  go_ret
  exact ⟨_, rfl, hb1⟩

theorem esc10 (w : World) : Calls Try.prog 24 #[.slice none 0 0, .int .u8 10] w fun e w' => ∃ v', e = .returned v' ∧ Buf w.heap.size w v' [92, 110] w' := by
  obtain ⟨i0, hi, hz0, hz1, hz2⟩ := info_parts Try.info5
  go_enter Try.func24, Try.ntmps24
  go_wp2_with (at_builtin; refine buf_str rfl (.tmp 23) (.const (.string { data := #[92, 110] })) 22 9 rfl i0 Try.underlying22 Try.underlying9 hi hz0 hz1 hz2 w.heap.size w _ [] rfl (nil_buf (Below.refl _ _)) { data := #[92, 110] } rfl (by decide) ?_; intro v1 w1 hb1)
  go_ret
  exact ⟨_, rfl, hb1⟩

theorem esc13 (w : World) : Calls Try.prog 24 #[.slice none 0 0, .int .u8 13] w fun e w' => ∃ v', e = .returned v' ∧ Buf w.heap.size w v' [92, 114] w' := by
  obtain ⟨i0, hi, hz0, hz1, hz2⟩ := info_parts Try.info5
  go_enter Try.func24, Try.ntmps24
  go_wp2_with (at_builtin; refine buf_str rfl (.tmp 27) (.const (.string { data := #[92, 114] })) 22 9 rfl i0 Try.underlying22 Try.underlying9 hi hz0 hz1 hz2 w.heap.size w _ [] rfl (nil_buf (Below.refl _ _)) { data := #[92, 114] } rfl (by decide) ?_; intro v1 w1 hb1)
  go_ret
  exact ⟨_, rfl, hb1⟩

theorem esc9 (w : World) : Calls Try.prog 24 #[.slice none 0 0, .int .u8 9] w fun e w' => ∃ v', e = .returned v' ∧ Buf w.heap.size w v' [92, 116] w' := by
  obtain ⟨i0, hi, hz0, hz1, hz2⟩ := info_parts Try.info5
  go_enter Try.func24, Try.ntmps24
  go_wp2_with (at_builtin; refine buf_str rfl (.tmp 31) (.const (.string { data := #[92, 116] })) 22 9 rfl i0 Try.underlying22 Try.underlying9 hi hz0 hz1 hz2 w.heap.size w _ [] rfl (nil_buf (Below.refl _ _)) { data := #[92, 116] } rfl (by decide) ?_; intro v1 w1 hb1)
  go_ret
  exact ⟨_, rfl, hb1⟩

def low : List UInt8 := [48, 49, 50, 51, 52, 53, 54, 55, 56, 57, 97, 98, 99, 100, 101, 102]
def lo (v : Nat) : UInt8 := low.getD v 0

theorem low_at (v : Nat) (h : v < 16) : ({ data := #[48, 49, 50, 51, 52, 53, 54, 55, 56, 57, 97, 98, 99, 100, 101, 102] } : ByteArray)[v]'h = lo v := by
  match v, h with
  | 0, _ | 1, _ | 2, _ | 3, _ | 4, _ | 5, _ | 6, _ | 7, _ | 8, _ | 9, _ | 10, _ | 11, _ | 12, _ | 13, _ | 14, _ | 15, _ => rfl
  | _ + 16, h => exact absurd h (by omega)

theorem six_cells (w : World) (x y : Int) (X Y : UInt8) (hx : x = (X.toNat : Int)) (hy : y = (Y.toNat : Int)) : ∀ j (hj : j < ([92, 117, 48, 48, X, Y] : List UInt8).length),
    ((w.alloc (.cells #[.int .u8 92, .int .u8 117, .int .u8 48, .int .u8 48, .int .u8 x, .int .u8 y] 5)).drew).cell? ⟨w.heap.size, j, none⟩ = some (bv ([92, 117, 48, 48, X, Y] : List UInt8)[j]) := by
  subst hx hy
  intro j hj
  show (w.alloc _).cell? _ = _
  rw [World.cell?_alloc_new]
  match j, hj with
  | 0, _ | 1, _ | 2, _ | 3, _ | 4, _ | 5, _ => rfl
  | _ + 6, h => exact absurd h (by simp)

theorem low_z (z : Int) (v : Nat) (hz : z = (v : Int)) (h : z.toNat < 16) : ((({ data := #[48, 49, 50, 51, 52, 53, 54, 55, 56, 57, 97, 98, 99, 100, 101, 102] } : ByteArray)[z.toNat]'h).toNat : Int) = ((lo v).toNat : Int) := by
  subst hz
  rw [low_at _ h, Int.toNat_natCast]

theorem esc_long (c : UInt8) (w : World) (h0 : ((c.toNat : Int) == 34) = false) (h1 : ((c.toNat : Int) == 92) = false) (h2 : ((c.toNat : Int) == 8) = false) (h3 : ((c.toNat : Int) == 12) = false) (h4 : ((c.toNat : Int) == 10) = false)
    (h5 : ((c.toNat : Int) == 13) = false) (h6 : ((c.toNat : Int) == 9) = false) :
    Calls Try.prog 24 #[.slice none 0 0, .int .u8 c.toNat] w fun e w' => ∃ v', e = .returned v' ∧ Buf w.heap.size w v' [92, 117, 48, 48, lo (c.toNat / 16), lo (c.toNat % 16)] w' := by
  obtain ⟨i0, hi, hz0, hz1, hz2⟩ := info_parts Try.info5
  have hc : c.toNat < 256 := c.toNat_lt
  have e15 : bits BinOp.and IntKind.u8 (c.toNat : Int) 15 = (c.toNat : Int) % 16 := u8_and15 _ (by omega) (by omega)
  have p1 : (0 : Int) ≤ (c.toNat : Int) / 16 := by omega
  have p2 : (c.toNat : Int) / 16 < 16 := by omega
  have p3 : (0 : Int) ≤ (c.toNat : Int) % 16 := by omega
  have p4 : (c.toNat : Int) % 16 < 16 := by omega
  go_enter Try.func24, Try.ntmps24
  go_wp2_with fail
  go_region_law (refine step_cells rfl (.tmp 33) (.tmp 40) 22 rfl i0 Try.underlying22 hi hz0 hz1 hz2 w.heap.size w (.slice none 0 0) [] (by simp [Act.eval]) (nil_buf ((Below.refl _ w).alloc (Nat.le_refl _) _).drew) w.heap.size 6 6 [92, 117, 48, 48, lo (c.toNat / 16), lo (c.toNat % 16)] (by simp [Act.eval]) rfl (by omega) (six_cells w _ _ _ _ (low_z _ _ (by omega) (by omega)) (low_z _ _ (by omega) (by omega))) (by simp) ?_; intro g' cap' w2 hb2)
  all_goals
    go_wp2
    go_ret
    exact ⟨_, rfl, hb2⟩

/-- What is written for c. -/
def esc (c : UInt8) : List UInt8 :=
  if c = 34 then [92, 34] else if c = 92 then [92, 92] else if c = 8 then [92, 98] else if c = 12 then [92, 102] else if c = 10 then [92, 110] else if c = 13 then [92, 114] else if c = 9 then [92, 116]
  else [92, 117, 48, 48, lo (c.toNat / 16), lo (c.toNat % 16)]

theorem ne_of {c : UInt8} {k : Nat} (hk : k < 256) (h : ¬ c = UInt8.ofNat k) : ((c.toNat : Int) == (k : Int)) = false := by
  rw [beq_eq_false_iff_ne]
  intro e
  apply h
  apply UInt8.toNat_inj.1
  simp
  omega

theorem esc_any (c : UInt8) (w : World) : Calls Try.prog 24 #[.slice none 0 0, .int .u8 c.toNat] w fun e w' => ∃ v', e = .returned v' ∧ Buf w.heap.size w v' (esc c) w' := by
  by_cases h0 : c = 34
  · subst h0; exact esc34 w
  · by_cases h1 : c = 92
    · subst h1; exact esc92 w
    · by_cases h2 : c = 8
      · subst h2; exact esc8 w
      · by_cases h3 : c = 12
        · subst h3; exact esc12 w
        · by_cases h4 : c = 10
          · subst h4; exact esc10 w
          · by_cases h5 : c = 13
            · subst h5; exact esc13 w
            · by_cases h6 : c = 9
              · subst h6; exact esc9 w
              · have e : esc c = [92, 117, 48, 48, lo (c.toNat / 16), lo (c.toNat % 16)] := by
                  unfold esc; rw [if_neg h0, if_neg h1, if_neg h2, if_neg h3, if_neg h4, if_neg h5, if_neg h6]
                rw [e]
                exact esc_long c w (ne_of (k := 34) (by omega) h0) (ne_of (k := 92) (by omega) h1) (ne_of (k := 8) (by omega) h2) (ne_of (k := 12) (by omega) h3) (ne_of (k := 10) (by omega) h4) (ne_of (k := 13) (by omega) h5) (ne_of (k := 9) (by omega) h6)

theorem zzesc_any (c : UInt8) (w : World) : Calls Try.prog 18 #[.slice none 0 0, .int .u8 c.toNat] w fun e w' => ∃ v', e = .returned v' ∧ Buf w.heap.size w v' (esc c) w' := by
  go_enter Try.func18, Try.ntmps18
  go_wp2_with fail
  refine (esc_any c w).mono ?_
  rintro e w1 ⟨v1, rfl, hb1⟩
  go_wp2_with fail
  go_ret
  exact ⟨_, rfl, hb1⟩
end Go.Proofs.Qxb6601169a.Esc
