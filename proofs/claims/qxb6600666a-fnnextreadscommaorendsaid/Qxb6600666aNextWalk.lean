/-
  The walk of FnNextReadsCommaOrEnd.
-/
import Derived.Test.Qxb6600666aDec
import Derived.Test.Qxb6600666aWs
namespace Go.Proofs.Qxb6600666a.NextWalk
open Go.RowKit Go.Proofs.Qxb6600666a.Plain Go.Proofs.Qxb6600666a.Buf Go.Proofs.Qxb6600666a.Dec Go.Proofs.Qxb6600666a.Ws

theorem u8_of {a : Int} (h : (Lit.int .u8 a).wf = true) : ∃ c : UInt8, a = (c.toNat : Int) := by
  have hb : 0 ≤ a ∧ a ≤ 255 := by simpa [Lit.wf, IntKind.min, IntKind.max, IntKind.bits, IntKind.signed] using h
  exact ⟨UInt8.ofNat a.toNat, by simp; omega⟩

theorem nx_close (M R : List UInt8) (c : UInt8) (hM : ∀ x ∈ M, isSp x = true) (hc : isSp c = false) : nx (M ++ c :: R) 0 c = (M.length + 1, false, true) := by
  have h : sk (M ++ c :: R) 0 = M.length := by
    have := sk_over [] M R c hM hc
    simpa using this
  rw [nx_end (by rw [h, atB_mid]; simp), h]

theorem nx_sep (M1 M2 R : List UInt8) (c : UInt8) (h1 : ∀ x ∈ M1, isSp x = true) (h2 : ∀ x ∈ M2, isSp x = true) (hc : ¬ (c.toNat : Int) = 44) : nx (M1 ++ 44 :: (M2 ++ 120 :: R)) 0 c = (M1.length + 1 + M2.length, true, true) := by
  have hs : sk (M1 ++ 44 :: (M2 ++ 120 :: R)) 0 = M1.length := by
    have := sk_over [] M1 (M2 ++ 120 :: R) 44 h1 (by decide)
    simpa using this
  have hc' : ((44 : UInt8) == c) = false := by
    rw [beq_eq_false_iff_ne]
    intro e
    subst e
    exact hc rfl
  rw [nx_comma (by rw [hs, atB_mid, hc']) (by rw [hs, atB_mid]; simp), hs]
  have := sk_over (M1 ++ [44]) M2 R 120 h2 (by decide)
  simp at this
  rw [this]

/-- A call of ZZNext at 0, its answer known. -/
theorem next_at0 (t : ByteArray) (L : List UInt8) (c : UInt8) (w : World) (q : Nat) (m o : Bool) (hL : t.data.toList = L) (hr : nx L 0 c = (q, m, o)) (ht : t.size ≤ 1000000000) :
    Calls Try.prog 16 #[.string t, .int .i64 0, .int .u8 c.toNat] w fun e w' => e = .returned (.tuple #[.int .i64 q, .bool m, .bool o]) ∧ Below w.heap.size w w' := by
  have h := zznext_any 0 t c w ht (by omega)
  rw [hL, hr] at h
  exact h

/-- The cells of a row, in a later world. -/
theorem row_later {B g n : Nat} {W0 w w' : World} {M : List UInt8} (h : Buf g W0 (.slice (some ⟨g, 0, none⟩) M.length n) M w) (hb : Below B w w') (hg : g < B) : ∀ j (hj : j < M.length), w'.cell? ⟨g, j, none⟩ = some (bv M[j]) := by
  intro j hj
  rw [hb.cell (p := ⟨g, j, none⟩) hg]
  exact h.cell j hj

set_option maxHeartbeats 1000000 in
theorem walk_end (s1 s2 r : ByteArray) (c : UInt8) (w : World) (h1 : s1.size ≤ 1048576) (h2 : s2.size ≤ 1048576) (h3 : r.size ≤ 1048576) (hsum : (s1.size : Int) + (s2.size : Int) + (r.size : Int) ≤ 1048576) (hc : isSp c = false) :
    Calls Try.prog 5 #[.string s1, .string s2, .string r, .int .u8 c.toNat, .bool false] w fun e w' => e = .returned (.bool true) ∧ Below w.heap.size w w' := by
  obtain ⟨i0, hi, hz0, hz1, hz2⟩ := info_parts Try.info5
  have h12 : (s1.size : Int) + (s2.size : Int) ≤ 1048576 := by omega
  have HC : Hid (isSp c = false) := hc
  have hsp : ∀ w, Calls Try.prog 14 #[.int .u8 c.toNat] w fun e w' => e = .returned (.bool false) ∧ w = w' := by
    intro w
    refine (space_any c w).mono ?_
    rintro e w' ⟨rfl, rfl⟩
    exact ⟨by rw [hc], rfl⟩
  have HSP := (show Hid _ from hsp)
  clear hc hsp
  go_enter Try.func5, Try.ntmps5
  go_wp2_with (first | (go_at_call 13; go_in) | fail)
  refine (HSP.out _).mono ?_
  rintro e w' ⟨rfl, rfl⟩
  go_wp2_with fail
  refine (ws_any s1 _ h1).mono ?_
  rintro e w1 ⟨M1, hm1, hs1, rfl, hb1, hl1⟩
  have HM1 := (show Hid (M1.length = s1.size) from hm1)
  have HS1 := (show Hid (∀ x ∈ M1, isSp x = true) from hs1)
  clear hm1 hs1
  go_wp2_with fail
  refine (ws_any s2 _ h2).mono ?_
  rintro e w2 ⟨M2, hm2, hs2, rfl, hb2, hl2⟩
  have HM2 := (show Hid (M2.length = s2.size) from hm2)
  have HS2 := (show Hid (∀ x ∈ M2, isSp x = true) from hs2)
  clear hm2 hs2
  go_wp2_with (first | (at_make; refine buf_make rfl (.const (.int .i64 0)) (.tmp 63) 23 rfl i0 (.int .u8 0) Try.underlying23 hi hz0 hz1 hz2 .i64 .i64 _ (s1.size + s2.size + r.size + 2) rfl rfl (by omega) (by omega) ?_; intro v3 w3 hb3) | (at_builtin; refine buf_cells rfl (.tmp 65) (.tmp 66) 23 rfl i0 Try.underlying23 hi hz0 hz1 hz2 w2.heap.size w2 v3 [] rfl hb3 w.heap.size s1.size s1.size M1 rfl HM1.out (row_later hb1 (hb2.below.trans (hb3.below.mono hb2.base)) hl1) (by rw [HM1.out]; simp; omega) ?_; intro v4 w4 hb4) | (at_builtin; refine buf_one rfl (.tmp 78) (.tmp 80) 23 rfl i0 Try.underlying23 hi hz0 hz1 hz2 w2.heap.size w2 v4 _ rfl hb4 rfl _ c rfl (by simp [HM1.out]; omega) ?_; intro v5 w5 hb5) | (at_builtin; refine buf_str rfl (.tmp 82) (.tmp 83) 23 9 rfl i0 Try.underlying23 Try.underlying9 hi hz0 hz1 hz2 w2.heap.size w2 v5 _ rfl hb5 r rfl (by simp [HM1.out]; omega) ?_; intro v9 w9 hb9; obtain ⟨L, hL⟩ : ∃ L, L = [] ++ M1 ++ [c] ++ r.data.toList := ⟨_, rfl⟩; rw [← hL] at hb9; obtain ⟨g, cp, hv9⟩ := hb9.form (by rw [hL]; simp; omega); subst hv9; have hcv := hb9.conv (P := Try.prog) 23 9 Try.underlying23 Try.underlying5 Try.underlying9; obtain ⟨T, hT⟩ : ∃ T : ByteArray, T = ⟨L.toArray⟩ := ⟨_, rfl⟩; rw [← hT] at hcv; have HT : Hid (T.data.toList = L) := (by rw [hT]; rfl); have HL := (show Hid (L = [] ++ M1 ++ [c] ++ r.data.toList) from hL); clear hT hL))
  have hTs : T.size = L.length := by rw [← HT.out]; rfl
  have hLs : L.length = s1.size + 1 + r.size := by rw [HL.out]; simp [HM1.out]; omega
  have hrow : nx L 0 c = (s1.size + 1, false, true) := by rw [HL.out]; have := nx_close M1 r.data.toList c HS1.out HC.out; rw [HM1.out] at this; simpa using this
  have HR := (show Hid _ from hrow)
  have hTb : T.size ≤ 1000000000 := by rw [hTs, hLs]; omega
  clear hcv hTs hLs hrow
  refine (next_at0 T L c _ _ _ _ HT.out HR.out hTb).mono ?_
  rintro e w10 ⟨rfl, hb10⟩
  go_wp2_with fail
  go_ret
  refine ⟨?_, ((((hb1.below).trans (hb2.below.mono (Nat.le_of_lt hl1))).trans (hb9.below.mono (Nat.le_trans (Nat.le_of_lt hl1) hb2.base))).trans (hb10.mono (Nat.le_trans (Nat.le_trans (Nat.le_of_lt hl1) hb2.base) hb9.base)))⟩
  first | rfl | (simp; done)

set_option maxHeartbeats 1000000 in
theorem walk_sep (s1 s2 r : ByteArray) (c : UInt8) (w : World) (h1 : s1.size ≤ 1048576) (h2 : s2.size ≤ 1048576) (h3 : r.size ≤ 1048576) (hsum : (s1.size : Int) + (s2.size : Int) + (r.size : Int) ≤ 1048576) (hc : isSp c = false) (hne : ((c.toNat : Int) == 44) = false) :
    Calls Try.prog 5 #[.string s1, .string s2, .string r, .int .u8 c.toNat, .bool true] w fun e w' => e = .returned (.bool true) ∧ Below w.heap.size w w' := by
  obtain ⟨i0, hi, hz0, hz1, hz2⟩ := info_parts Try.info5
  have h12 : (s1.size : Int) + (s2.size : Int) ≤ 1048576 := by omega
  have HC : Hid (isSp c = false) := hc
  have hsp : ∀ w, Calls Try.prog 14 #[.int .u8 c.toNat] w fun e w' => e = .returned (.bool false) ∧ w = w' := by
    intro w
    refine (space_any c w).mono ?_
    rintro e w' ⟨rfl, rfl⟩
    exact ⟨by rw [hc], rfl⟩
  have HSP := (show Hid _ from hsp)
  clear hc hsp
  go_enter Try.func5, Try.ntmps5
  go_wp2_with (first | (go_at_call 13; go_in) | fail)
  refine (HSP.out _).mono ?_
  rintro e w' ⟨rfl, rfl⟩
  go_wp2_with fail
  refine (ws_any s1 _ h1).mono ?_
  rintro e w1 ⟨M1, hm1, hs1, rfl, hb1, hl1⟩
  have HM1 := (show Hid (M1.length = s1.size) from hm1)
  have HS1 := (show Hid (∀ x ∈ M1, isSp x = true) from hs1)
  clear hm1 hs1
  go_wp2_with fail
  refine (ws_any s2 _ h2).mono ?_
  rintro e w2 ⟨M2, hm2, hs2, rfl, hb2, hl2⟩
  have HM2 := (show Hid (M2.length = s2.size) from hm2)
  have HS2 := (show Hid (∀ x ∈ M2, isSp x = true) from hs2)
  clear hm2 hs2
  go_wp2_with (first | (at_make; refine buf_make rfl (.const (.int .i64 0)) (.tmp 63) 23 rfl i0 (.int .u8 0) Try.underlying23 hi hz0 hz1 hz2 .i64 .i64 _ (s1.size + s2.size + r.size + 2) rfl rfl (by omega) (by omega) ?_; intro v3 w3 hb3) | (at_builtin; refine buf_cells rfl (.tmp 65) (.tmp 66) 23 rfl i0 Try.underlying23 hi hz0 hz1 hz2 w2.heap.size w2 v3 [] rfl hb3 w.heap.size s1.size s1.size M1 rfl HM1.out (row_later hb1 (hb2.below.trans (hb3.below.mono hb2.base)) hl1) (by rw [HM1.out]; simp; omega) ?_; intro v4 w4 hb4) | (at_builtin; refine buf_one rfl (.tmp 69) (.tmp 70) 23 rfl i0 Try.underlying23 hi hz0 hz1 hz2 w2.heap.size w2 v4 _ rfl hb4 rfl _ 44 rfl (by simp [HM1.out]; omega) ?_; intro v5 w5 hb5) | (at_builtin; refine buf_cells rfl (.tmp 72) (.tmp 73) 23 rfl i0 Try.underlying23 hi hz0 hz1 hz2 w2.heap.size w2 v5 _ rfl hb5 w1.heap.size s2.size s2.size M2 rfl HM2.out (row_later hb2 hb5.below hl2) (by simp [HM1.out, HM2.out]; omega) ?_; intro v6 w6 hb6) | (at_builtin; refine buf_one rfl (.tmp 75) (.tmp 76) 23 rfl i0 Try.underlying23 hi hz0 hz1 hz2 w2.heap.size w2 v6 _ rfl hb6 rfl _ 120 rfl (by simp [HM1.out, HM2.out]; omega) ?_; intro v7 w7 hb7) | (at_builtin; refine buf_str rfl (.tmp 82) (.tmp 83) 23 9 rfl i0 Try.underlying23 Try.underlying9 hi hz0 hz1 hz2 w2.heap.size w2 v7 _ rfl hb7 r rfl (by simp [HM1.out, HM2.out]; omega) ?_; intro v9 w9 hb9; obtain ⟨L, hL⟩ : ∃ L, L = [] ++ M1 ++ [44] ++ M2 ++ [120] ++ r.data.toList := ⟨_, rfl⟩; rw [← hL] at hb9; obtain ⟨g, cp, hv9⟩ := hb9.form (by rw [hL]; simp; omega); subst hv9; have hcv := hb9.conv (P := Try.prog) 23 9 Try.underlying23 Try.underlying5 Try.underlying9; obtain ⟨T, hT⟩ : ∃ T : ByteArray, T = ⟨L.toArray⟩ := ⟨_, rfl⟩; rw [← hT] at hcv; have HT : Hid (T.data.toList = L) := (by rw [hT]; rfl); have HL := (show Hid (L = [] ++ M1 ++ [44] ++ M2 ++ [120] ++ r.data.toList) from hL); clear hT hL))
  have hTs : T.size = L.length := by rw [← HT.out]; rfl
  have hLs : L.length = s1.size + 2 + s2.size + r.size := by rw [HL.out]; simp [HM1.out, HM2.out]; omega
  have hrow : nx L 0 c = (s1.size + 1 + s2.size, true, true) := by rw [HL.out]; have := nx_sep M1 M2 r.data.toList c HS1.out HS2.out (by simpa using hne); rw [HM1.out, HM2.out] at this; simpa using this
  have HR := (show Hid _ from hrow)
  have hTb : T.size ≤ 1000000000 := by rw [hTs, hLs]; omega
  clear hcv hTs hLs hrow
  refine (next_at0 T L c _ _ _ _ HT.out HR.out hTb).mono ?_
  rintro e w10 ⟨rfl, hb10⟩
  go_wp2_with fail
  go_ret
  refine ⟨?_, ((((hb1.below).trans (hb2.below.mono (Nat.le_of_lt hl1))).trans (hb9.below.mono (Nat.le_trans (Nat.le_of_lt hl1) hb2.base))).trans (hb10.mono (Nat.le_trans (Nat.le_trans (Nat.le_of_lt hl1) hb2.base) hb9.base)))⟩
  first | rfl | (simp; done)

set_option maxHeartbeats 1000000 in
theorem walk_comma (s1 s2 r : ByteArray) (c : UInt8) (w : World) (h1 : s1.size ≤ 1048576) (h2 : s2.size ≤ 1048576) (h3 : r.size ≤ 1048576) (hsum : (s1.size : Int) + (s2.size : Int) + (r.size : Int) ≤ 1048576) (hc : isSp c = false) (hne : ((c.toNat : Int) == 44) = true) :
    Calls Try.prog 5 #[.string s1, .string s2, .string r, .int .u8 c.toNat, .bool true] w fun e w' => e = .returned (.bool true) ∧ Below w.heap.size w w' := by
  obtain ⟨i0, hi, hz0, hz1, hz2⟩ := info_parts Try.info5
  have h12 : (s1.size : Int) + (s2.size : Int) ≤ 1048576 := by omega
  have HC : Hid (isSp c = false) := hc
  have hsp : ∀ w, Calls Try.prog 14 #[.int .u8 c.toNat] w fun e w' => e = .returned (.bool false) ∧ w = w' := by
    intro w
    refine (space_any c w).mono ?_
    rintro e w' ⟨rfl, rfl⟩
    exact ⟨by rw [hc], rfl⟩
  have HSP := (show Hid _ from hsp)
  clear hc hsp
  go_enter Try.func5, Try.ntmps5
  go_wp2_with (first | (go_at_call 13; go_in) | fail)
  refine (HSP.out _).mono ?_
  rintro e w' ⟨rfl, rfl⟩
  go_wp2_with fail
  refine (ws_any s1 _ h1).mono ?_
  rintro e w1 ⟨M1, hm1, hs1, rfl, hb1, hl1⟩
  have HM1 := (show Hid (M1.length = s1.size) from hm1)
  have HS1 := (show Hid (∀ x ∈ M1, isSp x = true) from hs1)
  clear hm1 hs1
  go_wp2_with fail
  refine (ws_any s2 _ h2).mono ?_
  rintro e w2 ⟨M2, hm2, hs2, rfl, hb2, hl2⟩
  have HM2 := (show Hid (M2.length = s2.size) from hm2)
  have HS2 := (show Hid (∀ x ∈ M2, isSp x = true) from hs2)
  clear hm2 hs2
  go_wp2_with (first | (at_make; refine buf_make rfl (.const (.int .i64 0)) (.tmp 63) 23 rfl i0 (.int .u8 0) Try.underlying23 hi hz0 hz1 hz2 .i64 .i64 _ (s1.size + s2.size + r.size + 2) rfl rfl (by omega) (by omega) ?_; intro v3 w3 hb3) | (at_builtin; refine buf_cells rfl (.tmp 65) (.tmp 66) 23 rfl i0 Try.underlying23 hi hz0 hz1 hz2 w2.heap.size w2 v3 [] rfl hb3 w.heap.size s1.size s1.size M1 rfl HM1.out (row_later hb1 (hb2.below.trans (hb3.below.mono hb2.base)) hl1) (by rw [HM1.out]; simp; omega) ?_; intro v4 w4 hb4) | (at_builtin; refine buf_one rfl (.tmp 69) (.tmp 70) 23 rfl i0 Try.underlying23 hi hz0 hz1 hz2 w2.heap.size w2 v4 _ rfl hb4 rfl _ 44 rfl (by simp [HM1.out]; omega) ?_; intro v5 w5 hb5) | (at_builtin; refine buf_cells rfl (.tmp 72) (.tmp 73) 23 rfl i0 Try.underlying23 hi hz0 hz1 hz2 w2.heap.size w2 v5 _ rfl hb5 w1.heap.size s2.size s2.size M2 rfl HM2.out (row_later hb2 hb5.below hl2) (by simp [HM1.out, HM2.out]; omega) ?_; intro v6 w6 hb6) | (at_builtin; refine buf_one rfl (.tmp 75) (.tmp 76) 23 rfl i0 Try.underlying23 hi hz0 hz1 hz2 w2.heap.size w2 v6 _ rfl hb6 rfl _ 120 rfl (by simp [HM1.out, HM2.out]; omega) ?_; intro v7 w7 hb7) | (at_builtin; refine buf_str rfl (.tmp 82) (.tmp 83) 23 9 rfl i0 Try.underlying23 Try.underlying9 hi hz0 hz1 hz2 w2.heap.size w2 v7 _ rfl hb7 r rfl (by simp [HM1.out, HM2.out]; omega) ?_; intro v9 w9 hb9; obtain ⟨L, hL⟩ : ∃ L, L = [] ++ M1 ++ [44] ++ M2 ++ [120] ++ r.data.toList := ⟨_, rfl⟩; rw [← hL] at hb9; obtain ⟨g, cp, hv9⟩ := hb9.form (by rw [hL]; simp; omega); subst hv9; have hcv := hb9.conv (P := Try.prog) 23 9 Try.underlying23 Try.underlying5 Try.underlying9; obtain ⟨T, hT⟩ : ∃ T : ByteArray, T = ⟨L.toArray⟩ := ⟨_, rfl⟩; rw [← hT] at hcv; have HT : Hid (T.data.toList = L) := (by rw [hT]; rfl); have HL := (show Hid (L = [] ++ M1 ++ [44] ++ M2 ++ [120] ++ r.data.toList) from hL); clear hT hL))
  have hTs : T.size = L.length := by rw [← HT.out]; rfl
  have hLs : L.length = s1.size + 2 + s2.size + r.size := by rw [HL.out]; simp [HM1.out, HM2.out]; omega
  have hrow : nx L 0 c = (s1.size + 1, false, true) := by rw [HL.out]; have e44 : c = 44 := UInt8.toNat_inj.1 (by simp at hne; show c.toNat = 44; omega); have := nx_close M1 (M2 ++ 120 :: r.data.toList) c HS1.out HC.out; rw [HM1.out] at this; rw [e44] at this ⊢; simpa using this
  have HR := (show Hid _ from hrow)
  have hTb : T.size ≤ 1000000000 := by rw [hTs, hLs]; omega
  clear hcv hTs hLs hrow
  refine (next_at0 T L c _ _ _ _ HT.out HR.out hTb).mono ?_
  rintro e w10 ⟨rfl, hb10⟩
  go_wp2_with fail
  go_ret
  refine ⟨?_, ((((hb1.below).trans (hb2.below.mono (Nat.le_of_lt hl1))).trans (hb9.below.mono (Nat.le_trans (Nat.le_of_lt hl1) hb2.base))).trans (hb10.mono (Nat.le_trans (Nat.le_trans (Nat.le_of_lt hl1) hb2.base) hb9.base)))⟩
  first | rfl | (simp; done)

theorem walk (a0 : ByteArray) (a1 : ByteArray) (a2 : ByteArray) (a3 : Int) (a4 : Bool) (w0 : a0.size ≤ maxLen) (w1 : a1.size ≤ maxLen) (w2 : a2.size ≤ maxLen) (w3 : (Lit.int .u8 a3).wf = true) (w : World) :
    Calls Try.prog 5 #[.string a0, .string a1, .string a2, .int .u8 a3, .bool a4] w fun e w' => e = .returned (.bool true) ∧ Below w.heap.size w w' := by
  unfold maxLen at w0 w1 w2
  by_cases h0 : a0.size ≤ 1048576
  · by_cases h1 : a1.size ≤ 1048576
    · by_cases h12 : (a0.size : Int) + (a1.size : Int) ≤ 1048576
      · by_cases h2 : a2.size ≤ 1048576
        · by_cases hs : (a0.size : Int) + (a1.size : Int) + (a2.size : Int) ≤ 1048576
          · obtain ⟨c, rfl⟩ := u8_of w3
            cases hc : isSp c with
            | true =>
              have hsp : ∀ w, Calls Try.prog 14 #[.int .u8 c.toNat] w fun e w' => e = .returned (.bool true) ∧ w = w' := by
                intro w
                refine (space_any c w).mono ?_
                rintro e w' ⟨rfl, rfl⟩
                exact ⟨by rw [hc], rfl⟩
              have HSP := (show Hid _ from hsp)
              clear hc hsp
              go_enter Try.func5, Try.ntmps5
              go_wp2_with (first | (go_at_call 13; go_in) | fail)
              refine (HSP.out _).mono ?_
              rintro e w' ⟨rfl, rfl⟩
              go_wp2_with fail
              go_ret
              exact ⟨rfl, Below.refl _ _⟩
            | false =>
              cases a4 with
              | false => exact walk_end a0 a1 a2 c w h0 h1 h2 hs hc
              | true =>
                cases hne : ((c.toNat : Int) == 44) with
                | true => exact walk_comma a0 a1 a2 c w h0 h1 h2 hs hc hne
                | false => exact walk_sep a0 a1 a2 c w h0 h1 h2 hs hc hne
          · go_enter Try.func5, Try.ntmps5
            go_wp2
            go_ret
            exact ⟨rfl, Below.refl _ _⟩
        · have h2' : (1048576 : Int) < (a2.size : Int) := by omega
          go_enter Try.func5, Try.ntmps5
          go_wp2
          go_ret
          exact ⟨rfl, Below.refl _ _⟩
      · go_enter Try.func5, Try.ntmps5
        go_wp2
        go_ret
        exact ⟨rfl, Below.refl _ _⟩
    · have h1' : (1048576 : Int) < (a1.size : Int) := by omega
      go_enter Try.func5, Try.ntmps5
      go_wp2
      go_ret
      exact ⟨rfl, Below.refl _ _⟩
  · have h0' : (1048576 : Int) < (a0.size : Int) := by omega
    go_enter Try.func5, Try.ntmps5
    go_wp2
    go_ret
    exact ⟨rfl, Below.refl _ _⟩
end Go.Proofs.Qxb6600666a.NextWalk
