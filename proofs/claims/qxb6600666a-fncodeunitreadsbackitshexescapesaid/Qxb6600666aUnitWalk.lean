/-
  The walk of FnCodeUnitReadsBackItsHexEscape.
-/
import Derived.Test.Qxb6600666aUnit
namespace Go.Proofs.Qxb6600666a.UnitWalk
open Go.RowKit Go.Proofs.Qxb6600666a.Buf Go.Proofs.Qxb6600666a.Unit

theorem Try.info5 : (Try.prog.info? 5).map (fun i => (i.zero, i.size, i.bytes)) = some (some (.int .u8 0), 1, 1) := by kernel_rfl

theorem hd_ok (v : Nat) (up : Bool) (h : v < 16) : isHex (hd v up) ∧ hv (hd v up) = v := by
  match v, h with
  | 0, _ | 1, _ | 2, _ | 3, _ | 4, _ | 5, _ | 6, _ | 7, _ | 8, _ | 9, _ | 10, _ | 11, _ | 12, _ | 13, _ | 14, _ | 15, _ => cases up <;> (unfold isHex; decide)
  | _ + 16, h => exact absurd h (by omega)

theorem hex_z (z : Int) (up : Bool) (w : World) (h0 : 0 ≤ z) (h1 : z < 16) :
    Calls Try.prog 10 #[.int .i64 z, .bool up] w fun e w' => e = .returned (.int .u8 (hd z.toNat up).toNat) ∧ w' = w := by
  have h := hex_any z.toNat up w (by omega)
  rw [Int.toNat_of_nonneg h0] at h
  exact h

/-- The divisor of round k. -/
def dv : Nat → Nat | 0 => 4096 | 1 => 256 | 2 => 16 | 3 => 1 | _ => 0
/-- What is still to be divided off. -/
def qv : Nat → Nat | 0 => 65536 | 1 => 4096 | 2 => 256 | 3 => 16 | _ => 1

/-- The bytes so far. -/
def tx (pre : ByteArray) (ds : List UInt8) : List UInt8 := pre.data.toList ++ [92, 117] ++ ds

theorem dig_step (u k z : Nat) (ds : List UInt8) (up : Bool) (hk : k < 4) (h : rd ds = u / qv k) (hh : ∀ c ∈ ds, isHex c) (hz : z = u / dv k % 16) :
    rd (ds ++ [hd z up]) = u / qv (k + 1) ∧ ∀ c ∈ ds ++ [hd z up], isHex c := by
  subst hz
  have hv16 : u / dv k % 16 < 16 := Nat.mod_lt _ (by omega)
  have h2 := hd_ok (u / dv k % 16) up hv16
  refine ⟨?_, ?_⟩
  · rw [rd_snoc, h2.2, h]
    match k, hk with
    | 0, _ | 1, _ | 2, _ | 3, _ => simp only [qv, dv]; omega
  · intro c hc
    rcases List.mem_append.1 hc with hc | hc
    · exact hh c hc
    · rw [List.mem_singleton.1 hc]; exact h2.1

theorem tx_snoc (pre : ByteArray) (ds : List UInt8) (x : UInt8) : tx pre ds ++ [x] = tx pre (ds ++ [x]) := by unfold tx; simp

/-- The whole text, and what stands where in it. -/
theorem text_facts (pre suf : ByteArray) (ds : List UInt8) (hl : ds.length = 4) (T : ByteArray) (hT : T = ⟨(tx pre ds ++ suf.data.toList).toArray⟩) :
    ∃ h : pre.size + 6 ≤ T.size, T.size = pre.size + 6 + suf.size ∧ T[pre.size] = 92 ∧ T[pre.size + 1] = 117 ∧ ∀ j (_ : j < 4), T[pre.size + 2 + j] = ds[j] := by
  have hlp : pre.data.toList.length = pre.size := rfl
  have hls : suf.data.toList.length = suf.size := rfl
  have hsz : T.size = (tx pre ds ++ suf.data.toList).length := by subst hT; exact List.size_toArray
  have hsz2 : T.size = pre.size + 6 + suf.size := by rw [hsz]; unfold tx; simp only [List.length_append, List.length_cons, List.length_nil]; omega
  have hget : ∀ k (h : k < T.size), T[k] = (tx pre ds ++ suf.data.toList)[k]'(by omega) := by subst hT; intro k h; rfl
  refine ⟨by omega, hsz2, ?_, ?_, ?_⟩
  · rw [hget _ (by omega)]
    simp only [tx, List.append_assoc]
    rw [List.getElem_append_right (by omega)]
    simp [hlp]
  · rw [hget _ (by omega)]
    simp only [tx, List.append_assoc]
    rw [List.getElem_append_right (by omega)]
    simp [hlp]
  · intro j hj
    rw [hget _ (by omega)]
    simp only [tx, List.append_assoc]
    rw [List.getElem_append_right (by omega)]
    have e : pre.size + 2 + j - pre.data.toList.length = j + 2 := by omega
    simp only [e]
    rw [List.getElem_append_right (by simp), List.getElem_append_left (by simp; omega)]
    simp

theorem unit_whole (pre suf : ByteArray) (ds : List UInt8) (u : Nat) (hl : ds.length = 4) (hh : ∀ c ∈ ds, isHex c) (hr : rd ds = u) (T : ByteArray) (hT : T = ⟨(tx pre ds ++ suf.data.toList).toArray⟩) (hsum : pre.size + suf.size ≤ 1048576) (w : World) :
    Calls Try.prog 11 #[.string T, .int .i64 pre.size] w fun e w' => e = .returned (.tuple #[.int .i32 u, .bool true]) ∧ Below w.heap.size w w' := by
  obtain ⟨h, h1, h2, h3, h4⟩ := text_facts pre suf ds hl T hT
  subst hr
  exact zzunit_full pre.size _ T w rfl (by omega) h h2 h3 ds hl hh h4

set_option maxHeartbeats 2000000 in
theorem walk_main (pre suf : ByteArray) (u : Nat) (c : Int) (w : World) (hp : pre.size ≤ 1048576) (hq : suf.size ≤ 1048576) (hsum : pre.size + suf.size ≤ 1048576) (hu : u ≤ 65535) :
    Calls Try.prog 3 #[.string pre, .string suf, .int .i64 u, .int .u8 c] w fun e w' => e = .returned (.bool true) ∧ Below w.heap.size w w' := by
  have hsum' : (pre.size : Int) + (suf.size : Int) ≤ 1048576 := by omega
  obtain ⟨i0, hi, hz0, hz1, hz2⟩ := info_parts Try.info5
  have hlp : pre.data.toList.length = pre.size := rfl
  have hls : suf.data.toList.length = suf.size := rfl
  go_enter Try.func3, Try.ntmps3
  go_wp2_with (first
    | (go_at_call 9; go_in)
    | (at_make; refine buf_make rfl (.const (.int .i64 0)) (.tmp 52) 23 rfl i0 (.int .u8 0) Try.underlying23 hi hz0 hz1 hz2 .i64 .i64 _ (pre.size + 6 + suf.size) rfl rfl (by omega) (by omega) ?_; intro v1 w1 hb1)
    | (at_builtin; refine buf_str rfl (.tmp 54) (.tmp 55) 23 9 rfl i0 Try.underlying23 Try.underlying9 hi hz0 hz1 hz2 w.heap.size w v1 [] rfl hb1 pre rfl (by simp; omega) ?_; intro v2 w2 hb2)
    | (at_builtin; refine buf_lit rfl (.tmp 57) (.tmp 58) 23 rfl i0 Try.underlying23 hi hz0 hz1 hz2 w.heap.size w v2 _ rfl hb2 _ 2 [92, 117] rfl rfl rfl (by simp; omega) ?_; intro v3 w3 hb3))
  go_loopg [9, 10, 11] 4 (fun g b d k wr => ∃ (n : Nat) (ds : List UInt8), n ≤ 4 ∧ g = 4 - n ∧ k = .int .i64 n ∧ d = .int .i64 (dv n) ∧ ds.length = n ∧ Aside (rd ds = u / qv n ∧ ∀ c ∈ ds, isHex c) ∧ Buf w.heap.size w b (tx pre ds) wr)
  case atStart => exact ⟨0, [], by omega, rfl, rfl, rfl, rfl, ⟨by simp [rd, qv]; omega, by simp⟩, by simpa [tx] using hb3⟩
  case round =>
    obtain ⟨n, ds, hn, hg, rfl, rfl, hlen, hA, hbuf⟩ := hrel
    clear hb1 hb2 hb3
    have HG : Hid (gk = 4 - n) := hg
    have HL : Hid (ds.length = n) := hlen
    clear hg hlen
    by_cases hlt : n < 4
    · have hlx : (tx pre ds).length + 1 ≤ 1000000000 := by simp [tx, HL.out]; omega
      have hu0 : (0 : Int) ≤ (u : Int) := by omega
      rcases (show n = 0 ∨ n = 1 ∨ n = 2 ∨ n = 3 by omega) with rfl | rfl | rfl | rfl
      all_goals
        simp only [dv]
        go_wp2_with (first
          | (go_at_call 10; refine (hex_z _ _ _ (by omega) (by omega)).mono ?_; rintro e w4 ⟨rfl, rfl⟩)
          | (at_builtin; refine buf_one rfl (.tmp 68) (.tmp 77) 23 rfl i0 Try.underlying23 hi hz0 hz1 hz2 w.heap.size w u9 _ rfl hbuf rfl _ _ rfl hlx ?_; intro v4 w5 hb5))
        rw [tx_snoc] at hb5
        have hA' := hA.out
        clear hA
      · go_roundg 3
        case measure => rw [HG.out]; omega
        case rel => exact ⟨1, _, by omega, rfl, by go_num, by go_num, by simp [HL.out], dig_step u 0 _ ds _ (by omega) hA'.1 hA'.2 (by simp [dv]), hb5⟩
      · go_roundg 2
        case measure => rw [HG.out]; omega
        case rel => exact ⟨2, _, by omega, rfl, by go_num, by go_num, by simp [HL.out], dig_step u 1 _ ds _ (by omega) hA'.1 hA'.2 (by simp [dv]), hb5⟩
      · go_roundg 1
        case measure => rw [HG.out]; omega
        case rel => exact ⟨3, _, by omega, rfl, by go_num, by go_num, by simp [HL.out], dig_step u 2 _ ds _ (by omega) hA'.1 hA'.2 (by simp [dv]), hb5⟩
      · go_roundg 0
        case measure => rw [HG.out]; omega
        case rel => exact ⟨4, _, by omega, rfl, by go_num, by go_num, by simp [HL.out], dig_step u 3 _ ds _ (by omega) hA'.1 hA'.2 (by simp [dv]), hb5⟩
    · obtain rfl : n = 4 := by omega
      have hlx : (tx pre ds).length + suf.size ≤ 1000000000 := by simp [tx, HL.out]; omega
      go_wp2_with (first
        | (at_builtin; refine buf_str rfl (.tmp 81) (.tmp 82) 23 9 rfl i0 Try.underlying23 Try.underlying9 hi hz0 hz1 hz2 w.heap.size w u9 _ rfl hbuf suf rfl hlx ?_; intro v6 w6 hb6; obtain ⟨L, hL⟩ : ∃ L, L = tx pre ds ++ suf.data.toList := ⟨_, rfl⟩; rw [← hL] at hb6; obtain ⟨g, cp, hv6⟩ := hb6.form (by rw [hL]; simp [tx]; omega); subst hv6; have hcv := hb6.conv (P := Try.prog) 23 9 Try.underlying23 Try.underlying5 Try.underlying9; obtain ⟨T, hT⟩ : ∃ T : ByteArray, T = ⟨L.toArray⟩ := ⟨_, rfl⟩; rw [← hT] at hcv; have HT : Hid (T = ⟨(tx pre ds ++ suf.data.toList).toArray⟩) := (by rw [hT, hL]; rfl); clear hT hL)
        | fail)
      obtain ⟨hT0, hT1, -, -, -⟩ := text_facts pre suf ds HL.out T HT.out
      have hT2 : (pre.size : Int) + 6 ≤ (T.size : Int) := by omega
      have hT3 : (T.size : Int) ≤ 2000000 := by omega
      clear hT1 hcv
      have hA' := hA.out
      have hru : rd ds = u := by rw [hA'.1]; simp [qv]
      have HW : Hid (∀ w, Calls Try.prog 11 #[.string T, .int .i64 pre.size] w fun e w' => e = .returned (.tuple #[.int .i32 u, .bool true]) ∧ Below w.heap.size w w') := fun w => unit_whole pre suf ds u HL.out hA'.2 hru T HT.out hsum w
      clear hA' hru hA
      refine (HW.out _).mono ?_
      rintro e w7 ⟨rfl, hb7⟩
      go_wp2_with fail
      refine (zzunit_short pre.size _ (T.extract 0 (pre.size + 5)) _ rfl (by simp; omega) (by simp; omega)).mono ?_
      rintro e w8 ⟨rfl, hb8⟩
      go_wp2_with fail
      go_ret
      exact ⟨rfl, (hb6.below.trans (hb7.mono hb6.base)).trans (hb8.mono (Nat.le_trans hb6.base hb7.size))⟩

theorem walk (a0 : ByteArray) (a1 : ByteArray) (a2 : Int) (a3 : Int) (w0 : a0.size ≤ maxLen) (w1 : a1.size ≤ maxLen) (w : World) :
    Calls Try.prog 3 #[.string a0, .string a1, .int .i64 a2, .int .u8 a3] w fun e w' => e = .returned (.bool true) ∧ Below w.heap.size w w' := by
  unfold maxLen at w0 w1
  by_cases h0 : a0.size ≤ 1048576
  · by_cases h1 : a1.size ≤ 1048576
    · by_cases h2 : (a0.size : Int) + (a1.size : Int) ≤ 1048576
      · by_cases h3 : a2 < 0
        · go_enter Try.func3, Try.ntmps3
          go_wp2
          go_ret
          exact ⟨rfl, Below.refl _ _⟩
        · by_cases h4 : a2 ≤ 65535
          · obtain ⟨u, rfl⟩ : ∃ u : Nat, a2 = (u : Int) := ⟨a2.toNat, by omega⟩
            exact walk_main a0 a1 u a3 w h0 h1 (by omega) (by omega)
          · go_enter Try.func3, Try.ntmps3
            go_wp2
            go_ret
            exact ⟨rfl, Below.refl _ _⟩
      · go_enter Try.func3, Try.ntmps3
        go_wp2
        go_ret
        exact ⟨rfl, Below.refl _ _⟩
    · have h1' : (1048576 : Int) < (a1.size : Int) := by omega
      go_enter Try.func3, Try.ntmps3
      go_wp2
      go_ret
      exact ⟨rfl, Below.refl _ _⟩
  · have h0' : (1048576 : Int) < (a0.size : Int) := by omega
    go_enter Try.func3, Try.ntmps3
    go_wp2
    go_ret
    exact ⟨rfl, Below.refl _ _⟩
end Go.Proofs.Qxb6600666a.UnitWalk
