/-
  The walks of hexVal, shortDecode, decodeEscape; the walk of FnAppendEscapeDecodesBack.
-/
import Derived.Test.Qxb6601169aEscWalk
namespace Go.Proofs.Qxb6601169a.BackWalk
open Go.RowKit Go.Proofs.Qxb6601169a.Buf Go.Proofs.Qxb6601169a.Base Go.Proofs.Qxb6601169a.Hex Go.Proofs.Qxb6601169a.Esc Go.Proofs.Qxb6601169a.EscWalk

def upp : List UInt8 := [48, 49, 50, 51, 52, 53, 54, 55, 56, 57, 65, 66, 67, 68, 69, 70]
def up (v : Nat) : UInt8 := upp.getD v 0

theorem upp_at (v : Nat) (h : v < 16) : ({ data := #[48, 49, 50, 51, 52, 53, 54, 55, 56, 57, 65, 66, 67, 68, 69, 70] } : ByteArray)[v]'h = up v := by
  match v, h with
  | 0, _ | 1, _ | 2, _ | 3, _ | 4, _ | 5, _ | 6, _ | 7, _ | 8, _ | 9, _ | 10, _ | 11, _ | 12, _ | 13, _ | 14, _ | 15, _ => rfl
  | _ + 16, h => exact absurd h (by omega)

theorem lo_inj : ∀ v k : Fin 16, k < v → (lo k).toNat ≠ (lo v).toNat ∧ (up k).toNat ≠ (lo v).toNat := by decide

theorem hexVal_lo (v : Nat) (w : World) (hv : v < 16) : Calls Try.prog 25 #[.int .u8 (lo v).toNat] w fun e w' => e = .returned (.tuple #[.int .i64 v, .bool true]) ∧ w = w' := by
  obtain ⟨c, hc⟩ : ∃ c, c = lo v := ⟨_, rfl⟩
  rw [← hc]
  have HC := (show Hid (c = lo v) from hc)
  clear hc
  go_enter Try.func25, Try.ntmps25
  go_wp2
  go_loop [4] (fun i => ∃ k : Nat, k ≤ v ∧ i = .int .i64 k) (fun i => v - (intOf i).toNat)
  case atStart => exact ⟨0, by omega, rfl⟩
  case round =>
    obtain ⟨k, hk, rfl⟩ := hrel
    have hk16 : (k : Int) < 16 := by omega
    have hk16' : k < 16 := by omega
    by_cases hlt : k < v
    · have hne : (lo k).toNat ≠ (lo v).toNat ∧ (up k).toNat ≠ (lo v).toNat := lo_inj ⟨v, hv⟩ ⟨k, hk16'⟩ hlt
      have g1 : (((({ data := #[48, 49, 50, 51, 52, 53, 54, 55, 56, 57, 97, 98, 99, 100, 101, 102] } : ByteArray)[k]'hk16').toNat : Int) == (c.toNat : Int)) = false := by
        rw [low_at k hk16', HC.out]; rw [beq_eq_false_iff_ne]; intro h; apply hne.1; omega
      have g2 : (((({ data := #[48, 49, 50, 51, 52, 53, 54, 55, 56, 57, 65, 66, 67, 68, 69, 70] } : ByteArray)[k]'hk16').toNat : Int) == (c.toNat : Int)) = false := by
        rw [upp_at k hk16', HC.out]; rw [beq_eq_false_iff_ne]; intro h; apply hne.2; omega
      clear hne
      go_wp2
      go_round
      case rel => exact ⟨k + 1, by omega, by go_num⟩
      case measure => simp [intOf]; omega
    · obtain rfl : k = v := by omega
      have g1 : (((({ data := #[48, 49, 50, 51, 52, 53, 54, 55, 56, 57, 97, 98, 99, 100, 101, 102] } : ByteArray)[k]'hk16').toNat : Int) == (c.toNat : Int)) = true := by
        rw [low_at k hk16', HC.out]; simp
      go_wp2
      go_ret2
      exact ⟨rfl, rfl⟩

/-- The two-byte escapes: c, and the letter that is written for it. -/
def Short (c x : UInt8) : Prop := (c = 34 ∧ x = 34) ∨ (c = 92 ∧ x = 92) ∨ (c = 8 ∧ x = 98) ∨ (c = 12 ∧ x = 102) ∨ (c = 10 ∧ x = 110) ∨ (c = 13 ∧ x = 114) ∨ (c = 9 ∧ x = 116)

theorem short_any (c x : UInt8) (w : World) (h : Short c x) : Calls Try.prog 26 #[.int .u8 x.toNat] w fun e w' => e = .returned (.tuple #[.int .u8 c.toNat, .bool true]) ∧ w = w' := by
  rcases h with ⟨rfl, rfl⟩ | ⟨rfl, rfl⟩ | ⟨rfl, rfl⟩ | ⟨rfl, rfl⟩ | ⟨rfl, rfl⟩ | ⟨rfl, rfl⟩ | ⟨rfl, rfl⟩
  all_goals
    go_enter Try.func26, Try.ntmps26
    go_wp2
    go_ret2
    exact ⟨rfl, rfl⟩

theorem esc_short (c : UInt8) : (∃ x, Short c x ∧ esc c = [92, x]) ∨ esc c = [92, 117, 48, 48, lo (c.toNat / 16), lo (c.toNat % 16)] := by
  unfold esc Short
  by_cases h0 : c = 34
  · exact .inl ⟨34, .inl ⟨h0, rfl⟩, by rw [if_pos h0]⟩
  by_cases h1 : c = 92
  · exact .inl ⟨92, .inr (.inl ⟨h1, rfl⟩), by rw [if_neg h0, if_pos h1]⟩
  by_cases h2 : c = 8
  · exact .inl ⟨98, .inr (.inr (.inl ⟨h2, rfl⟩)), by rw [if_neg h0, if_neg h1, if_pos h2]⟩
  by_cases h3 : c = 12
  · exact .inl ⟨102, .inr (.inr (.inr (.inl ⟨h3, rfl⟩))), by rw [if_neg h0, if_neg h1, if_neg h2, if_pos h3]⟩
  by_cases h4 : c = 10
  · exact .inl ⟨110, .inr (.inr (.inr (.inr (.inl ⟨h4, rfl⟩)))), by rw [if_neg h0, if_neg h1, if_neg h2, if_neg h3, if_pos h4]⟩
  by_cases h5 : c = 13
  · exact .inl ⟨114, .inr (.inr (.inr (.inr (.inr (.inl ⟨h5, rfl⟩))))), by rw [if_neg h0, if_neg h1, if_neg h2, if_neg h3, if_neg h4, if_pos h5]⟩
  by_cases h6 : c = 9
  · exact .inl ⟨116, .inr (.inr (.inr (.inr (.inr (.inr ⟨h6, rfl⟩))))), by rw [if_neg h0, if_neg h1, if_neg h2, if_neg h3, if_neg h4, if_neg h5, if_pos h6]⟩
  · exact .inr (by rw [if_neg h0, if_neg h1, if_neg h2, if_neg h3, if_neg h4, if_neg h5, if_neg h6])

theorem dec_short (c x : UInt8) (g cap : Nat) (w : World) (h : Short c x) (h0 : w.cell? ⟨g, 0, none⟩ = some (.int .u8 92)) (h1 : w.cell? ⟨g, 1, none⟩ = some (.int .u8 x.toNat)) (hx : ((x.toNat : Int) == 117) = false) :
    Calls Try.prog 19 #[.slice (some ⟨g, 0, none⟩) 2 cap] w fun e w' => e = .returned (.tuple #[.int .i64 c.toNat, .int .i64 2, .bool true]) ∧ w = w' := by
  have HS := (show Hid (Short c x) from h)
  have hcl : c.toNat < 256 := c.toNat_lt
  clear h
  go_enter Try.func19, Try.ntmps19
  go_wp2_with fail
  refine (short_any c x _ HS.out).mono ?_
  rintro e w1 ⟨rfl, rfl⟩
  go_wp2_with fail
  go_ret3
  exact ⟨rfl, rfl⟩

theorem dec_long (c : UInt8) (g cap : Nat) (w : World) (ds : List UInt8) (hl : ds.length = 4) (hv : ∀ j (h : j < 4), ∃ v, v < 16 ∧ ds[j] = lo v) (hrd : rd ds = c.toNat)
    (h0 : w.cell? ⟨g, 0, none⟩ = some (.int .u8 92)) (h1 : w.cell? ⟨g, 1, none⟩ = some (.int .u8 117)) (hc : ∀ j (h : j < 4), w.cell? ⟨g, 2 + j, none⟩ = some (.int .u8 (ds[j].toNat : Int))) :
    Calls Try.prog 19 #[.slice (some ⟨g, 0, none⟩) 6 cap] w fun e w' => e = .returned (.tuple #[.int .i64 c.toNat, .int .i64 6, .bool true]) ∧ w = w' := by
  have HC := (show Hid (∀ j (h : j < 4), w.cell? ⟨g, 2 + j, none⟩ = some (.int .u8 (ds[j].toNat : Int))) from hc)
  have HV := (show Hid (∀ j (h : j < 4), ∃ v, v < 16 ∧ ds[j] = lo v) from hv)
  have HR := (show Hid (rd ds = c.toNat) from hrd)
  clear hc hv hrd
  go_enter Try.func19, Try.ntmps19
  go_wp2_with fail
  go_loop [5, 6] (fun r i => ∃ k V : Nat, k ≤ 4 ∧ i = .int .i64 ((k + 2 : Nat) : Int) ∧ r = .int .i64 V ∧ V ≤ 16 ^ k ∧ Aside (V = rd (ds.take k))) (fun _ i => 6 - (intOf i).toNat)
  case atStart => exact ⟨0, 0, by omega, rfl, rfl, by omega, rfl⟩
  case round =>
    obtain ⟨k, V, hk, rfl, rfl, hVb, hA⟩ := hrel
    have hb2 : (16 : Nat) ^ k ≤ 16 ^ 4 := Nat.pow_le_pow_right (by omega) (by omega)
    have hVV : V ≤ 65536 := by omega
    by_cases hlt : k < 4
    · obtain ⟨v, hv16, hdv⟩ := HV.out k hlt
      have hcell := HC.out k hlt
      rw [hdv, Nat.add_comm 2 k] at hcell
      have hsn := rd_snoc (ds.take k) ds[k]
      rw [← List.take_succ_eq_append_getElem, hdv, (lo_ok v hv16).2] at hsn
      have HN : Hid (rd (ds.take (k + 1)) = V * 16 + v) := by rw [hA.out]; exact hsn
      have HB : Hid (V * 16 + v ≤ 16 ^ (k + 1)) := by
        have := rd_lt (k + 1) (ds.take (k + 1)) (by simp; omega) (fun c hc => by
          obtain ⟨j, hj, rfl⟩ := List.getElem_of_mem (List.mem_of_mem_take hc)
          obtain ⟨v', h1, h2⟩ := HV.out j (by omega)
          rw [h2]; exact (lo_ok v' h1).1)
        rw [HN.out] at this; exact Nat.le_of_lt this
      clear hdv hsn hVb hb2
      go_wp2_with fail
      refine (hexVal_lo v _ hv16).mono ?_
      rintro e w1 ⟨rfl, rfl⟩
      go_wp2_with fail
      go_round
      case rel => exact ⟨k + 1, V * 16 + v, by omega, by go_num, by go_num, HB.out, HN.out.symm⟩
      case measure => simp [intOf]; omega
    · obtain rfl : k = 4 := by omega
      have hVc : V = c.toNat := by rw [hA.out, List.take_of_length_le (by omega)]; exact HR.out
      subst hVc
      go_wp2_with fail
      go_ret3
      exact ⟨rfl, rfl⟩

/-- Printable, a quote and a backslash only where they may stand. -/
def OkB (j : Nat) (x : UInt8) : Prop := 32 ≤ x.toNat ∧ x.toNat ≤ 126 ∧ (x.toNat = 34 → j = 1) ∧ (x.toNat = 92 → j ≤ 1)
def Ok (L : List UInt8) : Prop := ∀ j (h : j < L.length), OkB j L[j]

/-- decodeEscape reads the bytes L as c, whole. -/
def DecOk (c : UInt8) (L : List UInt8) : Prop := ∀ (g cap : Nat) (w1 : World), (∀ j (h : j < L.length), w1.cell? ⟨g, j, none⟩ = some (.int .u8 (L[j].toNat : Int))) →
  Calls Try.prog 19 #[.slice (some ⟨g, 0, none⟩) L.length cap] w1 fun e w' => e = .returned (.tuple #[.int .i64 c.toNat, .int .i64 L.length, .bool true]) ∧ w1 = w'

theorem main (c : UInt8) (L : List UInt8) (w : World) (hL : esc c = L) (h0 : 0 < L.length) (h6 : L.length ≤ 6) (hOk : Ok L)
    (hD : DecOk c L) :
    Calls Try.prog 7 #[.int .u8 c.toNat] w fun e w' => e = .returned (.bool true) ∧ Below w.heap.size w w' := by
  have HZ : Hid (Calls Try.prog 18 #[.slice none 0 0, .int .u8 c.toNat] w fun e w' => ∃ v', e = .returned v' ∧ Buf w.heap.size w v' L w') := by rw [← hL]; exact zzesc_any c w
  have HD := (show Hid (DecOk c L) from hD)
  have HO := (show Hid (Ok L) from hOk)
  have hcl : c.toNat < 256 := c.toNat_lt
  clear hL hD hOk
  go_enter Try.func7, Try.ntmps7
  go_wp2_with fail
  refine HZ.out.mono ?_
  rintro e w1 ⟨v1, rfl, hb1⟩
  obtain ⟨g, cp, hv1, hc1, hc2⟩ := form2 hb1 h0
  subst hv1
  go_wp2_with fail
  refine (HD.out g cp w1 (fun j h => hb1.cell j h)).mono ?_
  rintro e w2 ⟨rfl, rfl⟩
  go_wp2_with fail
  go_loop [7] (fun i => ∃ k : Nat, k ≤ L.length ∧ i = .int .i64 k) (fun i => L.length - (intOf i).toNat)
  case atStart => exact ⟨0, by omega, rfl⟩
  case round =>
    obtain ⟨k, hk, rfl⟩ := hrel
    by_cases hlt : k < L.length
    · have hcell := hb1.cell k hlt
      obtain ⟨o1, o2, o3, o4⟩ := HO.out k hlt
      obtain ⟨x, ex⟩ : ∃ x : Int, x = (L[k].toNat : Int) := ⟨_, rfl⟩
      rw [← ex] at hcell
      have b1 : 32 ≤ x := by omega
      have b2 : x ≤ 126 := by omega
      by_cases x34 : x = 34
      · have hk1 := o3 (by omega)
        clear o1 o2 o3 o4
        subst hk1
        have g1 : (x == 34) = true := by simpa using x34
        have g2 : (x == 92) = false := by rw [beq_eq_false_iff_ne]; omega
        clear x34 ex
        go_wp2_with fail
        go_round
        case rel => exact ⟨2, by omega, by go_num⟩
        case measure => simp [intOf]; omega
      · have g1 : (x == 34) = false := by rw [beq_eq_false_iff_ne]; exact x34
        by_cases x92 : x = 92
        · have hk1 := o4 (by omega)
          clear o1 o2 o3 o4
          have g2 : (x == 92) = true := by simpa using x92
          clear x34 x92 ex
          go_wp2_with fail
          go_round
          case rel => exact ⟨k + 1, by omega, by go_num⟩
          case measure => simp [intOf]; omega
        · have g2 : (x == 92) = false := by rw [beq_eq_false_iff_ne]; exact x92
          clear o1 o2 o3 o4 x34 x92 ex
          go_wp2_with fail
          go_round
          case rel => exact ⟨k + 1, by omega, by go_num⟩
          case measure => simp [intOf]; omega
    · go_wp2_with fail
      go_ret
      exact ⟨rfl, hb1.below⟩

theorem short_ok (c x : UInt8) (h : Short c x) : Ok [92, x] ∧ ((x.toNat : Int) == 117) = false := by
  have hx : 32 ≤ x.toNat ∧ x.toNat ≤ 126 ∧ x.toNat ≠ 117 := by
    rcases h with ⟨_, rfl⟩ | ⟨_, rfl⟩ | ⟨_, rfl⟩ | ⟨_, rfl⟩ | ⟨_, rfl⟩ | ⟨_, rfl⟩ | ⟨_, rfl⟩ <;> decide
  refine ⟨?_, by rw [beq_eq_false_iff_ne]; omega⟩
  have a0 : OkB 0 92 := by unfold OkB; decide
  have a1 : OkB 1 x := ⟨hx.1, hx.2.1, fun _ => rfl, fun _ => Nat.le_refl _⟩
  intro j hj
  match j, hj with
  | 0, _ => exact a0
  | 1, _ => exact a1
  | _ + 2, h => exact absurd h (by simp)

theorem lo_print (v : Nat) (h : v < 16) : 32 ≤ (lo v).toNat ∧ (lo v).toNat ≤ 126 ∧ (lo v).toNat ≠ 34 ∧ (lo v).toNat ≠ 92 := by
  match v, h with
  | 0, _ | 1, _ | 2, _ | 3, _ | 4, _ | 5, _ | 6, _ | 7, _ | 8, _ | 9, _ | 10, _ | 11, _ | 12, _ | 13, _ | 14, _ | 15, _ => decide
  | _ + 16, h => exact absurd h (by omega)

theorem long_ok (u v : Nat) (hu : u < 16) (hv : v < 16) : Ok [92, 117, 48, 48, lo u, lo v] := by
  have h1 := lo_print u hu
  have h2 := lo_print v hv
  have a0 : OkB 0 92 := by unfold OkB; decide
  have a1 : OkB 1 117 := by unfold OkB; decide
  have a2 : OkB 2 48 := by unfold OkB; decide
  have a3 : OkB 3 48 := by unfold OkB; decide
  have a4 : OkB 4 (lo u) := ⟨h1.1, h1.2.1, fun h => absurd h h1.2.2.1, fun h => absurd h h1.2.2.2⟩
  have a5 : OkB 5 (lo v) := ⟨h2.1, h2.2.1, fun h => absurd h h2.2.2.1, fun h => absurd h h2.2.2.2⟩
  intro j hj
  match j, hj with
  | 0, _ => exact a0
  | 1, _ => exact a1
  | 2, _ => exact a2
  | 3, _ => exact a3
  | 4, _ => exact a4
  | 5, _ => exact a5
  | _ + 6, h => exact absurd h (by simp)

theorem walk (a0 : Int) (w0 : (Lit.int .u8 a0).wf = true) (w : World) :
    Calls Try.prog 7 #[.int .u8 a0] w fun e w' => e = .returned (.bool true) ∧ Below w.heap.size w w' := by
  obtain ⟨c, rfl⟩ := u8_of w0
  have hcl : c.toNat < 256 := c.toNat_lt
  rcases esc_short c with ⟨x, hs, he⟩ | he
  · obtain ⟨h1, h2⟩ := short_ok c x hs
    refine main c [92, x] w he (by simp) (by simp) h1 ?_
    intro g cap w1 hc
    exact dec_short c x g cap w1 hs (hc 0 (by simp)) (hc 1 (by simp)) h2
  · refine main c [92, 117, 48, 48, lo (c.toNat / 16), lo (c.toNat % 16)] w he (by simp) (by simp) (long_ok _ _ (by omega) (by omega)) ?_
    intro g cap w1 hc
    refine dec_long c g cap w1 [48, 48, lo (c.toNat / 16), lo (c.toNat % 16)] rfl ?_ (digs_ok c).2 (hc 0 (by simp)) (hc 1 (by simp)) ?_
    · intro j h
      match j, h with
      | 0, _ => exact ⟨0, by omega, rfl⟩
      | 1, _ => exact ⟨0, by omega, rfl⟩
      | 2, _ => exact ⟨c.toNat / 16, by omega, rfl⟩
      | 3, _ => exact ⟨c.toNat % 16, by omega, rfl⟩
    · intro j h
      have := hc (2 + j) (by simp; omega)
      rw [this]
      match j, h with
      | 0, _ | 1, _ | 2, _ | 3, _ => rfl
end Go.Proofs.Qxb6601169a.BackWalk
