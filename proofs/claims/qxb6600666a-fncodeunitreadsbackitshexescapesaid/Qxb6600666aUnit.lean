/-
  The walks of zzb1HexDigit, codeUnit, ZZCodeUnit.
-/
import Derived.Test.Qxb6600666aProg
import Derived.Test.Qxb6600666aBuf
import Derived.WalkKit
import Derived.WalkSpells
import Derived.WalkSmall
import Derived.Deep.LoopGhost
import Derived.Deep.QuietTactic
import Derived.BigQuiet
namespace Go.Proofs.Qxb6600666a.Unit
open Go.RowKit Go.Proofs.Qxb6600666a.Buf

theorem ret_int {k : IntKind} {a b : Int} (h : a = b) : Ending.returned (.int k a) = .returned (.int k b) := by rw [h]

def low : List UInt8 := [48, 49, 50, 51, 52, 53, 54, 55, 56, 57, 97, 98, 99, 100, 101, 102]
def upp : List UInt8 := [48, 49, 50, 51, 52, 53, 54, 55, 56, 57, 65, 66, 67, 68, 69, 70]
def hd (v : Nat) (up : Bool) : UInt8 := if up then upp.getD v 0 else low.getD v 0

theorem upp_at (v : Nat) (h : v < 16) : ({ data := #[48, 49, 50, 51, 52, 53, 54, 55, 56, 57, 65, 66, 67, 68, 69, 70] } : ByteArray)[v]'h = hd v true := by
  match v, h with
  | 0, _ | 1, _ | 2, _ | 3, _ | 4, _ | 5, _ | 6, _ | 7, _ | 8, _ | 9, _ | 10, _ | 11, _ | 12, _ | 13, _ | 14, _ | 15, _ => rfl
  | _ + 16, h => exact absurd h (by omega)

theorem low_at (v : Nat) (h : v < 16) : ({ data := #[48, 49, 50, 51, 52, 53, 54, 55, 56, 57, 97, 98, 99, 100, 101, 102] } : ByteArray)[v]'h = hd v false := by
  match v, h with
  | 0, _ | 1, _ | 2, _ | 3, _ | 4, _ | 5, _ | 6, _ | 7, _ | 8, _ | 9, _ | 10, _ | 11, _ | 12, _ | 13, _ | 14, _ | 15, _ => rfl
  | _ + 16, h => exact absurd h (by omega)

theorem hex_any (v : Nat) (up : Bool) (w : World) (hv : v < 16) :
    Calls Try.prog 10 #[.int .i64 v, .bool up] w fun e w' => e = .returned (.int .u8 (hd v up).toNat) ∧ w' = w := by
  have hv' : (v : Int) < 16 := by omega
  cases up with
  | true =>
    go_enter Try.func10, Try.ntmps10
    go_wp2
    go_ret
    exact ⟨ret_int (by rw [upp_at v hv]), rfl⟩
  | false =>
    go_enter Try.func10, Try.ntmps10
    go_wp2
    go_ret
    exact ⟨ret_int (by rw [low_at v hv]), rfl⟩

theorem unit_short (b i : Nat) (t : ByteArray) (w : World) (h1 : w.cell? ⟨b, 0, none⟩ = some (.string t)) (hi : i ≤ t.size) (hs : t.size < i + 6) :
    Calls Try.prog 22 #[.pointer (some ⟨b, 0, none⟩), .int .i64 i] w fun e w' => e = .returned (.tuple #[.int .i32 0, .bool false]) ∧ w' = w := by
  go_enter Try.func22, Try.ntmps22
  go_wp2
  go_ret2
  exact ⟨rfl, rfl⟩

/-- '[]byte(s)': a new row that holds the bytes. -/
theorem wpList_bytes {P : Program} {ops : Array Oper} {rest : List Oper} {o : Oper} {a : Act} {Q : Exit → Act → World → Prop} {w : World} (hgd : o.guard = none) (x : Operand) (src dst : TypeId) (ho : o.op = Op.convert src dst x)
    (hs : P.underlying src = some .string) (hd : P.underlying dst = some (.slice 5)) (he : P.underlying 5 = some (.int .u8)) (s : ByteArray) (hx : a.eval x = .string s)
    (h : ∀ cap w', Below w.heap.size w w' → (∀ j (hj : j < s.size), w'.cell? ⟨w.heap.size, j, none⟩ = some (.int .u8 (s[j].toNat : Int))) → wpList P ops Q rest (a.put o.dst (.slice (some ⟨w.heap.size, 0, none⟩) s.size cap)) w') :
    wpList P ops Q (o :: rest) a w := by
  refine wpList_plain hgd fun K hK => ?_
  have hr := run_bytes_of_string (P := P) w src dst 5 s hs hd he
  unfold Oper.wp
  simp [execOp, ho, hx, hr, Result.andThen]
  refine hK _ _ (h _ _ ?_ ?_)
  · exact (Below.refl _ w).drew.alloc (Nat.le_refl _) _
  · intro j hj
    have := World.cell?_alloc_mark w.drew (bytesRow s (grownCap w s.size 0 5)) 5 ((bytesRow s (grownCap w s.size 0 5)).size, (bytesRow s (grownCap w s.size 0 5)).size + 1) j
    refine this.trans ?_
    unfold bytesRow
    rw [Array.getElem?_append_left (by simpa using hj)]
    simp [hj]
    rfl

/-- A byte as a hexadecimal digit. -/
def hv (c : UInt8) : Nat := if c.toNat ≤ 57 then c.toNat - 48 else if c.toNat ≤ 70 then c.toNat - 55 else c.toNat - 87
def isHex (c : UInt8) : Prop := (48 ≤ c.toNat ∧ c.toNat ≤ 57) ∨ (97 ≤ c.toNat ∧ c.toNat ≤ 102) ∨ (65 ≤ c.toNat ∧ c.toNat ≤ 70)

theorem hv_lt {c : UInt8} (h : isHex c) : hv c < 16 := by unfold isHex at h; unfold hv; split <;> (try split) <;> omega

/-- The number that digits spell. -/
def rd (l : List UInt8) : Nat := l.foldl (fun r c => r * 16 + hv c) 0

theorem rd_snoc (l : List UInt8) (c : UInt8) : rd (l ++ [c]) = rd l * 16 + hv c := by unfold rd; simp

theorem rd_lt : ∀ (n : Nat) (l : List UInt8), l.length = n → (∀ c ∈ l, isHex c) → rd l < 16 ^ n
  | 0, l, h, _ => by obtain rfl := List.eq_nil_of_length_eq_zero h; decide
  | n + 1, l, h, hh => by
    have hne : l ≠ [] := by intro e; subst e; simp at h
    obtain ⟨m, c, rfl⟩ : ∃ m c, l = m ++ [c] := ⟨l.dropLast, l.getLast hne, (List.dropLast_concat_getLast hne).symm⟩
    have ih := rd_lt n m (by simpa using h) (fun c hc => hh c (by simp [hc]))
    have := hv_lt (hh c (by simp))
    rw [rd_snoc, Nat.pow_succ]
    omega

theorem or4 (x y : Int) (h0 : 0 ≤ x) (h1 : x < 2147483648) (h2 : x % 16 = 0) (h3 : 0 ≤ y) (h4 : y < 16) : bits .or .i32 x y = x + y :=
  bits_join .i32 31 (by decide) wraps_i32 4 x y h0 h2 h1 h3 h4 (by omega)

theorem val_eq {k : IntKind} {a b : Int} (h : a = b) : Value.int k a = Value.int k b := by rw [h]

/-- A round's step: the digit joined to the number so far. -/
theorem join_eq (R x y : Int) (l m : List UInt8) (c : UInt8) (hR : R = (rd l : Int)) (hR2 : 0 ≤ R ∧ R < 4096) (hx : x = (c.toNat : Int)) (hm : rd m = rd l * 16 + hv c)
    (h : (48 ≤ x ∧ x ≤ 57 ∧ y = x - 48) ∨ (97 ≤ x ∧ x ≤ 102 ∧ y = x - 87) ∨ (65 ≤ x ∧ x ≤ 70 ∧ y = x - 55)) : bits .or .i32 (R * 16) y = (rd m : Int) := by
  rw [or4 _ _ (by omega) (by omega) (by omega) (by omega) (by omega), hm]
  have e : (hv c : Int) = y := by
    unfold hv
    rcases h with h | h | h
    · rw [if_pos (by omega)]; omega
    · rw [if_neg (by omega), if_neg (by omega)]; omega
    · rw [if_neg (by omega), if_pos (by omega)]; omega
  omega

theorem unit_full (b i : Nat) (t : ByteArray) (w : World) (h1 : w.cell? ⟨b, 0, none⟩ = some (.string t)) (ht : t.size ≤ 1000000000) (hs : i + 6 ≤ t.size)
    (ha : ((t[i].toNat : Int) != 92) = false) (hb : ((t[i+1].toNat : Int) != 117) = false) (ds : List UInt8) (hl : ds.length = 4) (hh : ∀ c ∈ ds, isHex c)
    (hds : ∀ j (h : j < 4), t[i + 2 + j] = ds[j]) :
    Calls Try.prog 22 #[.pointer (some ⟨b, 0, none⟩), .int .i64 i] w fun e w' => e = .returned (.tuple #[.int .i32 (rd ds), .bool true]) ∧ Below w.heap.size w w' := by
  have HD : Hid (∀ j (h : j < 4), t[i + 2 + j] = ds[j]) := hds
  clear hds
  go_enter Try.func22, Try.ntmps22
  go_wp2_with (refine wpList_bytes rfl (.tmp 45) 9 23 rfl Try.underlying9 Try.underlying23 Try.underlying5 _ rfl ?_; intro cap w1 hbel hcell)
  have hcell' : ∀ j (h : j < 4), w1.cell? ⟨w.heap.size, j, none⟩ = some (.int .u8 (ds[j].toNat : Int)) := by
    intro j hj
    rw [hcell j (by simp; omega), ← HD.out j hj]
    simp [ByteArray.getElem_extract]
  clear hcell ha hb
  have HC : Hid (∀ j (h : j < 4), w1.cell? ⟨w.heap.size, j, none⟩ = some (.int .u8 (ds[j].toNat : Int))) := hcell'
  clear hcell'
  go_loop [48, 6] (fun s r => ∃ k : Nat, k ≤ 4 ∧ s = .int .i64 k ∧ r = .int .i32 (rd (ds.take k))) (fun s _ => 4 - (intOf s).toNat)
  case atStart => exact ⟨0, by omega, rfl, rfl⟩
  case round =>
    obtain ⟨k, hk, rfl, rfl⟩ := hrel
    by_cases hlt : k < 4
    · have hc := HC.out k hlt
      have hx := hh ds[k] (List.getElem_mem _)
      have hsn := rd_snoc (ds.take k) ds[k]
      rw [← List.take_succ_eq_append_getElem] at hsn
      obtain ⟨x, ex⟩ : ∃ x : Int, x = (ds[k].toNat : Int) := ⟨_, rfl⟩
      obtain ⟨R, eR⟩ : ∃ R : Int, R = (rd (ds.take k) : Int) := ⟨_, rfl⟩
      have hb1 := rd_lt k (ds.take k) (by simp; omega) (fun c hc => hh c (List.mem_of_mem_take hc))
      have hb2 : (16 : Nat) ^ k ≤ 16 ^ 3 := Nat.pow_le_pow_right (by omega) (by omega)
      have hR : 0 ≤ R ∧ R < 4096 := by rw [eR]; omega
      rw [← ex] at hc
      rw [← eR]
      have HX : Hid (x = (ds[k].toNat : Int)) := ex
      have HR : Hid (R = (rd (ds.take k) : Int)) := eR
      have HS : Hid (rd (ds.take (k + 1)) = rd (ds.take k) * 16 + hv ds[k]) := hsn
      clear ex eR hsn hb1 hb2
      have hx3 : (48 ≤ x ∧ x ≤ 57) ∨ (97 ≤ x ∧ x ≤ 102) ∨ (65 ≤ x ∧ x ≤ 70) := by rw [HX.out]; unfold isHex at hx; omega
      clear hx hh
      rcases hx3 with ⟨g1, g2⟩ | ⟨g1, g2⟩ | ⟨g1, g2⟩
      all_goals
        go_wp2
        go_round
        case rel => exact ⟨k + 1, by omega, by go_num, val_eq (join_eq R x _ _ _ _ HR.out hR HX.out HS.out (by omega))⟩
        case measure => simp [intOf]; omega
    · obtain rfl : k = 4 := by omega
      go_wp2
      go_ret2
      exact ⟨by rw [List.take_of_length_le (by omega)]; rfl, hbel⟩

theorem zzunit_short (i : Nat) (z : Int) (t : ByteArray) (w : World) (hz : z = i) (hi : i ≤ t.size) (hs : t.size < i + 6) :
    Calls Try.prog 11 #[.string t, .int .i64 z] w fun e w' => e = .returned (.tuple #[.int .i32 0, .bool false]) ∧ Below w.heap.size w w' := by
  subst hz
  go_enter Try.func11, Try.ntmps11
  go_wp2_with fail
  refine (unit_short w.heap.size i t _ (by simp) hi hs).mono ?_
  rintro e w1 ⟨rfl, rfl⟩
  go_wp2_with fail
  go_ret2
  exact ⟨rfl, (Below.refl _ w).alloc (Nat.le_refl _) _⟩

theorem zzunit_full (i : Nat) (z : Int) (t : ByteArray) (w : World) (hz : z = i) (ht : t.size ≤ 1000000000) (hs : i + 6 ≤ t.size)
    (ha : t[i] = 92) (hb : t[i+1] = 117) (ds : List UInt8) (hl : ds.length = 4) (hh : ∀ c ∈ ds, isHex c) (hds : ∀ j (h : j < 4), t[i + 2 + j] = ds[j]) :
    Calls Try.prog 11 #[.string t, .int .i64 z] w fun e w' => e = .returned (.tuple #[.int .i32 (rd ds), .bool true]) ∧ Below w.heap.size w w' := by
  subst hz
  have hc := unit_full w.heap.size i t (w.alloc (.cells #[.string t, .int .i64 0] 42)) (by simp) ht hs (by rw [ha]; decide) (by rw [hb]; decide) ds hl hh hds
  have HC : Hid (Calls Try.prog 22 #[.pointer (some ⟨w.heap.size, 0, none⟩), .int .i64 i] (w.alloc (.cells #[.string t, .int .i64 0] 42)) fun e w' => e = .returned (.tuple #[.int .i32 (rd ds), .bool true]) ∧
    Below (w.alloc (.cells #[.string t, .int .i64 0] 42)).heap.size (w.alloc (.cells #[.string t, .int .i64 0] 42)) w') := hc
  clear hc ha hb hds
  go_enter Try.func11, Try.ntmps11
  go_wp2_with fail
  refine HC.out.mono ?_
  rintro e w1 ⟨rfl, hb1⟩
  go_wp2_with fail
  go_ret2
  exact ⟨rfl, ((Below.refl _ w).alloc (Nat.le_refl _) _).trans (hb1.mono (by simp))⟩
end Go.Proofs.Qxb6600666a.Unit
