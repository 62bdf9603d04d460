/-
  The walks of hex4, ZZhex4, hexDigit; what hexadecimal digits spell.
-/
import Derived.Test.Qxb6601169aProg
import Derived.Test.Qxb6601169aBuf
import Derived.WalkKit
import Derived.WalkSpells
import Derived.WalkSmall
import Derived.Deep.LoopGhost
import Derived.Deep.QuietTactic
import Derived.BigQuiet
namespace Go.Proofs.Qxb6601169a.Hex
open Go.RowKit Go.Proofs.Qxb6601169a.Buf

theorem Try.info5 : (Try.prog.info? 5).map (fun i => (i.zero, i.size, i.bytes)) = some (some (.int .u8 0), 1, 1) := by kernel_rfl

theorem ret_int {k : IntKind} {a b : Int} (h : a = b) : Ending.returned (.int k a) = .returned (.int k b) := by rw [h]
theorem val_eq {k : IntKind} {a b : Int} (h : a = b) : Value.int k a = Value.int k b := by rw [h]

/-- A byte as a hexadecimal digit. -/
def hv (c : UInt8) : Nat := if c.toNat ≤ 57 then c.toNat - 48 else if c.toNat ≤ 70 then c.toNat - 55 else c.toNat - 87
def isHex (c : UInt8) : Prop := (48 ≤ c.toNat ∧ c.toNat ≤ 57) ∨ (97 ≤ c.toNat ∧ c.toNat ≤ 102) ∨ (65 ≤ c.toNat ∧ c.toNat ≤ 70)

theorem hv_lt {c : UInt8} (h : isHex c) : hv c < 16 := by unfold isHex at h; unfold hv; split <;> (try split) <;> omega

/-- The number that digits spell. -/
def rd (l : List UInt8) : Nat := l.foldl (fun r c => r * 16 + hv c) 0

theorem rd_snoc (l : List UInt8) (c : UInt8) : rd (l ++ [c]) = rd l * 16 + hv c := by unfold rd; simp

theorem rd_lt : ∀ (n : Nat) (l : List UInt8), l.length = n → (∀ c ∈ l, isHex c) → rd l < 16 ^ n
  | 0, l, h, _ => by obtain rfl := List.eq_nil_of_length_eq_zero h; decide
  | n + 1, l, h, hh => by
    have hne : l ≠ [] := by intro e; subst e; simp at h
    obtain ⟨m, c, rfl⟩ : ∃ m c, l = m ++ [c] := ⟨l.dropLast, l.getLast hne, (List.dropLast_concat_getLast hne).symm⟩
    have ih := rd_lt n m (by simpa using h) (fun c hc => hh c (by simp [hc]))
    have := hv_lt (hh c (by simp))
    rw [rd_snoc, Nat.pow_succ]
    omega

theorem or4 (x y : Int) (h0 : 0 ≤ x) (h1 : x < 2147483648) (h2 : x % 16 = 0) (h3 : 0 ≤ y) (h4 : y < 16) : bits .or .i32 x y = x + y :=
  bits_join .i32 31 (by decide) wraps_i32 4 x y h0 h2 h1 h3 h4 (by omega)

/-- A round's step: the digit joined to the number so far. -/
theorem join_eq (R x y : Int) (l m : List UInt8) (c : UInt8) (hR : R = (rd l : Int)) (hR2 : 0 ≤ R ∧ R < 4096) (hx : x = (c.toNat : Int)) (hm : rd m = rd l * 16 + hv c)
    (h : (48 ≤ x ∧ x ≤ 57 ∧ y = x - 48) ∨ (97 ≤ x ∧ x ≤ 102 ∧ y = x - 87) ∨ (65 ≤ x ∧ x ≤ 70 ∧ y = x - 55)) : bits .or .i32 (R * 16) y = (rd m : Int) := by
  rw [or4 _ _ (by omega) (by omega) (by omega) (by omega) (by omega), hm]
  have e : (hv c : Int) = y := by
    unfold hv
    rcases h with h | h | h
    · rw [if_pos (by omega)]; omega
    · rw [if_neg (by omega), if_neg (by omega)]; omega
    · rw [if_neg (by omega), if_pos (by omega)]; omega
  omega

theorem hex4_full (g off n cap : Nat) (w : World) (hn : 4 ≤ n) (hnc : n ≤ cap) (hcm : cap ≤ maxLen) (ds : List UInt8) (hl : ds.length = 4) (hh : ∀ c ∈ ds, isHex c) (hds : ∀ j (h : j < 4), w.cell? ⟨g, off + j, none⟩ = some (.int .u8 (ds[j].toNat : Int))) :
    Calls Try.prog 23 #[.slice (some ⟨g, off, none⟩) n cap] w fun e w' => e = .returned (.tuple #[.int .i32 (rd ds), .bool true]) ∧ w = w' := by
  unfold maxLen at hcm
  have HC : Hid (∀ j (h : j < 4), w.cell? ⟨g, off + j, none⟩ = some (.int .u8 (ds[j].toNat : Int))) := hds
  clear hds
  go_enter Try.func23, Try.ntmps23
  go_wp2
  go_loop [14, 4] (fun s r => ∃ k : Nat, k ≤ 4 ∧ s = .int .i64 k ∧ r = .int .i32 (rd (ds.take k))) (fun s _ => 4 - (intOf s).toNat)
  case atStart => exact ⟨0, by omega, rfl, rfl⟩
  case round =>
    obtain ⟨k, hk, rfl, rfl⟩ := hrel
    by_cases hlt : k < 4
    · have hc := HC.out k hlt
      have hx := hh ds[k] (List.getElem_mem _)
      have hsn := rd_snoc (ds.take k) ds[k]
      rw [← List.take_succ_eq_append_getElem] at hsn
      obtain ⟨x, ex⟩ : ∃ x : Int, x = (ds[k].toNat : Int) := ⟨_, rfl⟩
      obtain ⟨R, eR⟩ : ∃ R : Int, R = (rd (ds.take k) : Int) := ⟨_, rfl⟩
      have hb1 := rd_lt k (ds.take k) (by simp; omega) (fun c hc => hh c (List.mem_of_mem_take hc))
      have hb2 : (16 : Nat) ^ k ≤ 16 ^ 3 := Nat.pow_le_pow_right (by omega) (by omega)
      have hR : 0 ≤ R ∧ R < 4096 := by rw [eR]; omega
      rw [← ex] at hc
      rw [← eR]
      have HX : Hid (x = (ds[k].toNat : Int)) := ex
      have HR : Hid (R = (rd (ds.take k) : Int)) := eR
      have HS : Hid (rd (ds.take (k + 1)) = rd (ds.take k) * 16 + hv ds[k]) := hsn
      clear ex eR hsn hb1 hb2
      have hx3 : (48 ≤ x ∧ x ≤ 57) ∨ (97 ≤ x ∧ x ≤ 102) ∨ (65 ≤ x ∧ x ≤ 70) := by rw [HX.out]; unfold isHex at hx; omega
      clear hx hh
      rcases hx3 with ⟨g1, g2⟩ | ⟨g1, g2⟩ | ⟨g1, g2⟩
      all_goals
        go_wp2
        go_round
        case rel => exact ⟨k + 1, by omega, by go_num, val_eq (join_eq R x _ _ _ _ HR.out hR HX.out HS.out (by omega))⟩
        case measure => simp [intOf]; omega
    · obtain rfl : k = 4 := by omega
      go_wp2
      go_ret2
      exact ⟨by rw [List.take_of_length_le (by omega)]; rfl, rfl⟩

theorem zzhex4_full (g off n cap : Nat) (w : World) (hn : 4 ≤ n) (hnc : n ≤ cap) (hcm : cap ≤ maxLen) (ds : List UInt8) (hl : ds.length = 4) (hh : ∀ c ∈ ds, isHex c) (hds : ∀ j (h : j < 4), w.cell? ⟨g, off + j, none⟩ = some (.int .u8 (ds[j].toNat : Int))) :
    Calls Try.prog 17 #[.slice (some ⟨g, off, none⟩) n cap] w fun e w' => e = .returned (.tuple #[.int .i32 (rd ds), .bool true]) ∧ w = w' := by
  have HC : Hid (Calls Try.prog 23 #[.slice (some ⟨g, off, none⟩) n cap] w fun e w' => e = .returned (.tuple #[.int .i32 (rd ds), .bool true]) ∧ w = w') := hex4_full g off n cap w hn hnc hcm ds hl hh hds
  clear hds hh
  go_enter Try.func17, Try.ntmps17
  go_wp2_with fail
  refine HC.out.mono ?_
  rintro e w1 ⟨rfl, rfl⟩
  go_wp2_with fail
  go_ret2
  exact ⟨rfl, rfl⟩

/-- The digit of v. -/
def hdig (v : Nat) (up : Bool) : UInt8 := if v < 10 then UInt8.ofNat (48 + v) else if up then UInt8.ofNat (55 + v) else UInt8.ofNat (87 + v)

theorem hdig_ok (v : Nat) (up : Bool) (h : v < 16) : isHex (hdig v up) ∧ hv (hdig v up) = v := by
  match v, h with
  | 0, _ | 1, _ | 2, _ | 3, _ | 4, _ | 5, _ | 6, _ | 7, _ | 8, _ | 9, _ | 10, _ | 11, _ | 12, _ | 13, _ | 14, _ | 15, _ => cases up <;> (unfold isHex; decide)
  | _ + 16, h => exact absurd h (by omega)

theorem hexDigit_any (z : Int) (up : Bool) (w : World) (h0 : 0 ≤ z) (h1 : z < 16) :
    Calls Try.prog 16 #[.int .i64 z, .bool up] w fun e w' => e = .returned (.int .u8 (hdig z.toNat up).toNat) ∧ w = w' := by
  by_cases hz : z < 10
  · go_enter Try.func16, Try.ntmps16
    go_wp2
    go_ret
    exact ⟨ret_int (by unfold hdig; rw [if_pos (by omega)]; simp; omega), rfl⟩
  · cases up with
    | true =>
      go_enter Try.func16, Try.ntmps16
      go_wp2
      go_ret
      exact ⟨ret_int (by unfold hdig; rw [if_neg (by omega)]; simp; omega), rfl⟩
    | false =>
      go_enter Try.func16, Try.ntmps16
      go_wp2
      go_ret
      exact ⟨ret_int (by unfold hdig; rw [if_neg (by omega)]; simp; omega), rfl⟩
end Go.Proofs.Qxb6601169a.Hex
