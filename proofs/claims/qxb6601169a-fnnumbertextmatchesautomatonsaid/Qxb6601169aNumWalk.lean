/-
  ZZnumberText; the walk of FnNumberTextMatchesAutomaton.
-/
import Derived.Test.Qxb6601169aNumText
import Derived.Test.Qxb6601169aNumModel
import Derived.Laws.CopyOwn
import Derived.Lib.SliceRun
import Derived.WalkLawsBesides
import Derived.LaidEqlPtr
namespace Go.Proofs.Qxb6601169a.NumWalk
open Go.RowKit Go.Proofs.Qxb6601169a.Buf Go.Proofs.Qxb6601169a.Base Go.Proofs.Qxb6601169a.Num Go.Proofs.Qxb6601169a.NumCalls Go.Proofs.Qxb6601169a.NumText Go.Proofs.Qxb6601169a.NumModel

theorem Try.info5 : (Try.prog.info? 5).map (fun i => (i.zero, i.size, i.bytes)) = some (some (.int .u8 0), 1, 1) := by kernel_rfl
theorem Try.size5 : (Try.prog.info? 5).map (·.size) = some 1 := by kernel_rfl

theorem nt_past {M : List UInt8} {n i : Nat} (hl : M.length = n) (h : n ≤ i) : nt M i = none :=
  nt_none2 (st1_no (past hl h _)) (st2_no (past hl h _) (by rw [dg_end M i (by omega)]; omega))

theorem text_out (w : World) (ao : Option Addr) (n cap : Nat) (M : List UInt8) (i : Nat) (hd : Dat w ao n M) (hn : n ≤ 1048576) (hi : n ≤ i) (him : i ≤ 9223372036854775807) :
    Calls Try.prog 20 #[.slice ao n cap, .int .i64 i] w fun e w' => e = .returned (.tuple #[.slice none 0 0, .int .i64 0, .bool false]) ∧ w = w' := by
  have HD := (show Hid (Dat w ao n M) from hd)
  have hq : ¬ i < dg M i := by rw [dg_end M i (by rw [hd.len]; omega)]; omega
  have hi' : decide ((i : Int) < (n : Int)) = false := by simp; omega
  clear hd
  go_enter Try.func20, Try.ntmps20
  go_wp2_with fail
  refine (digits_no w _ n cap M i _ rfl HD.out hn him hq).mono ?_
  rintro e w1 ⟨rfl, rfl⟩
  go_wp2_with fail
  go_ret3
  exact ⟨rfl, rfl⟩

theorem zz_out (w : World) (ao : Option Addr) (n cap : Nat) (M : List UInt8) (i : Nat) (hd : Dat w ao n M) (hn : n ≤ 1048576) (hi : n ≤ i) (him : i ≤ 9223372036854775807) :
    Calls Try.prog 10 #[.slice ao n cap, .int .i64 i] w fun e w' => e = .returned (.tuple #[.slice none 0 0, .int .i64 0, .bool false]) ∧ w = w' := by
  have HC : Hid (Calls Try.prog 20 #[.slice ao n cap, .int .i64 i] w fun e w' => e = .returned (.tuple #[.slice none 0 0, .int .i64 0, .bool false]) ∧ w = w') := text_out w ao n cap M i hd hn hi him
  clear hd
  go_enter Try.func10, Try.ntmps10
  go_wp2_with fail
  refine HC.out.mono ?_
  rintro e w1 ⟨rfl, rfl⟩
  go_wp2_with fail
  go_ret3
  exact ⟨rfl, rfl⟩

theorem zz_none (w : World) (g n cap : Nat) (M : List UInt8) (i : Nat) (hd : Dat w (some ⟨g, 0, none⟩) n M) (hn : n ≤ 1048576) (hnc : n ≤ cap) (hcm : cap ≤ maxLen) (hi : i < n) (h : nt M i = none) :
    Calls Try.prog 10 #[.slice (some ⟨g, 0, none⟩) n cap, .int .i64 i] w fun e w' => e = .returned (.tuple #[.slice none 0 0, .int .i64 0, .bool false]) ∧ w = w' := by
  have HC : Hid (Calls Try.prog 20 #[.slice (some ⟨g, 0, none⟩) n cap, .int .i64 i] w fun e w' => e = .returned (.tuple #[.slice none 0 0, .int .i64 0, .bool false]) ∧ w = w') := by
    have := text_in w g n cap M i hd hn hnc hcm hi
    rw [h] at this
    exact this
  clear hd h
  go_enter Try.func10, Try.ntmps10
  go_wp2_with fail
  refine HC.out.mono ?_
  rintro e w1 ⟨rfl, rfl⟩
  go_wp2_with fail
  go_ret3
  exact ⟨rfl, rfl⟩

theorem txt_some (g cap i m : Nat) : txt g cap i (some (i + m)) = .tuple #[.slice (some ⟨g, i, none⟩) m (cap - i), .int .i64 ((i : Int) + (m : Int)), .bool true] := by
  show Value.tuple #[.slice (some ⟨g, i, none⟩) (i + m - i) (cap - i), .int .i64 ((i + m : Nat) : Int), .bool true] = _
  rw [Nat.add_sub_cancel_left]; rfl

theorem zz_some (w : World) (g n cap : Nat) (M : List UInt8) (i m : Nat) (hd : Dat w (some ⟨g, 0, none⟩) n M) (hn : n ≤ 1048576) (hnc : n ≤ cap) (hcm : cap ≤ maxLen) (hi : i < n) (h : nt M i = some (i + m)) :
    Calls Try.prog 10 #[.slice (some ⟨g, 0, none⟩) n cap, .int .i64 i] w fun e w' => e = .returned (.tuple #[.slice (some ⟨g, i, none⟩) m (cap - i), .int .i64 ((i : Int) + (m : Int)), .bool true]) ∧ w = w' := by
  have HC : Hid (Calls Try.prog 20 #[.slice (some ⟨g, 0, none⟩) n cap, .int .i64 i] w fun e w' => e = .returned (.tuple #[.slice (some ⟨g, i, none⟩) m (cap - i), .int .i64 ((i : Int) + (m : Int)), .bool true]) ∧ w = w') := by
    have := text_in w g n cap M i hd hn hnc hcm hi
    rw [h, txt_some] at this
    exact this
  clear hd h
  go_enter Try.func10, Try.ntmps10
  go_wp2_with fail
  refine HC.out.mono ?_
  rintro e w1 ⟨rfl, rfl⟩
  go_wp2_with fail
  go_ret3
  exact ⟨rfl, rfl⟩

/-- 'copy(c, data)', c as long as data and made by the call. -/
theorem buf_copy {P : Program} {ops : Array Oper} {rest : List Oper} {o : Oper} {a : Act} {Q : Exit → Act → World → Prop} {w : World} (hgd : o.guard = none) (d s : Operand) (t : TypeId)
    (ho : o.op = .call { callee := .builtin .copy, args := #[d, s], argTypes := #[t, t] }) (ht : P.underlying t = some (.slice 5)) (hsz : (P.info? 5).map (·.size) = some 1)
    (B : Nat) (W0 : World) (n cap : Nat) (L M : List UInt8) (ad : Addr) (hd : a.eval d = .slice (some ⟨B, 0, none⟩) n n) (hs : a.eval s = .slice (some ad) n cap) (hb : Buf B W0 (.slice (some ⟨B, 0, none⟩) n n) L w)
    (hL : L.length = n) (hM : M.length = n) (hcell : ∀ j (hj : j < M.length), w.cell? (ad.add j) = some (bv M[j]))
    (h : ∀ w', Dat w' (some ⟨B, 0, none⟩) n M → Below B W0 w' → wpList P ops Q rest (a.put o.dst (goInt n)) w') : wpList P ops Q (o :: rest) a w := by
  have ho2 := hb.own.2
  rcases ho2 with ⟨h0, _⟩ | ⟨g, c, cur, h0, _, hg, _, _, hcs, htake⟩
  · cases h0
  · simp only [Value.slice.injEq, Option.some.injEq, Addr.mk.injEq, and_true] at h0
    obtain ⟨rfl, _, rfl⟩ := h0
    have hcur : cur.toList = L.map bv := by
      rw [← htake, List.take_of_length_le (by rw [Array.length_toList, hcs, hL]; omega)]
    have hg' : w.heap[B]? = some (.cells (L.map bv).toArray 5 (0, 0)) := by rw [hg, ← hcur]
    refine wpList_copy_splice hgd d s t t ho 5 ht hsz _ _ n n n cap hd hs B 0 (L.map bv) 5 hg' (M.map bv) (by simp [hM]) ?_ (by simp [hM, hL]) ?_ B W0 hb.below (Nat.le_refl _) ?_
    · intro _
      refine ⟨rfl, ad, rfl, fun j v hj => ?_⟩
      obtain ⟨hj', rfl⟩ := List.getElem?_eq_some_iff.1 hj
      rw [hcell j (by simpa using hj')]
      simp
    · intro v hv
      obtain ⟨_, _, rfl⟩ := List.mem_map.1 hv
      rfl
    · intro w' hrow hbl
      have e : splice (L.map bv) 0 (M.map bv) = M.map bv := by unfold splice; rw [List.drop_eq_nil_of_le (by simp [hM, hL])]; simp
      have hrow' := hrow.out
      rw [e] at hrow'
      have hlen : (M.map bv).length = n := by simp [hM]
      rw [hlen]
      refine h w' ⟨hM, fun k hk => ⟨B, rfl, ?_⟩⟩ hbl
      rw [cell_of_row w' B k _ 5 (0, 0) hrow']
      simp [hk, bv]

theorem dat_drewN {w : World} {ao : Option Addr} {n : Nat} {M : List UInt8} (h : Dat w ao n M) (q : Nat) : Dat (w.drewN q) ao n M := ⟨h.len, h.cell⟩

set_option maxRecDepth 100000 in
set_option maxHeartbeats 2000000 in
theorem walk_nil (i : Nat) (w : World) (him : i ≤ 9223372036854775807) :
    Calls Try.prog 3 #[.slice none 0 0, .int .i64 i] w fun e w' => e = .returned (.bool true) ∧ Below w.heap.size w w' := by
  have hD : Dat w none 0 [] := ⟨rfl, fun k h => absurd h (by simp)⟩
  have hN : nm [] i = none := by rw [law]; exact nt_past (n := 0) rfl (by omega)
  have HZ : Hid (Calls Try.prog 10 #[.slice none 0 0, .int .i64 i] w fun e w' => e = .returned (.tuple #[.slice none 0 0, .int .i64 0, .bool false]) ∧ w = w') := zz_out w none 0 0 [] i hD (by omega) (by omega) him
  have HM : Hid (Calls Try.prog 11 #[.slice none 0 0, .int .i64 i] w fun e w' => e = .returned (.tuple #[.int .i64 0, .bool false]) ∧ w = w') := by
    have := model_any w none 0 0 [] i hD (by omega) him
    rw [hN] at this
    exact this
  clear hD hN
  have heq := fun (w : World) (a : Option Addr) (n c n' c' : Nat) => Lib.run_eql_slice_nil (P := Try.prog) w 22 5 a n c n' c' Try.underlying22
  go_enter Try.func3, Try.ntmps3
  go_wp2_with (first | (go_at_call 9; go_in) | fail)
  refine HZ.out.mono ?_
  rintro e w1 ⟨rfl, rfl⟩
  go_wp2_with fail
  refine HM.out.mono ?_
  rintro e w1 ⟨rfl, rfl⟩
  go_wp2_with fail
  go_ret
  exact ⟨rfl, Below.refl _ _⟩

theorem nt_lt {M : List UInt8} {n i q : Nat} (hl : M.length = n) (h : nt M i = some q) : i < q ∧ q ≤ n := by
  by_cases hi : i < n
  · unfold nt at h
    obtain ⟨k, h2, h⟩ := Option.bind_eq_some_iff.1 h
    obtain ⟨l, h3, h4⟩ := Option.bind_eq_some_iff.1 h
    have a1 : i ≤ st1 M i ∧ st1 M i ≤ n := by unfold st1; split <;> omega
    have a2 : st1 M i < k ∧ k ≤ n := by
      unfold st2 at h2
      split at h2
      · rename_i hz
        have := (get_of hz).1
        cases h2; omega
      · split at h2
        · cases h2
          have := dg_le M (st1 M i) (by omega)
          omega
        · cases h2
    have a3 : k ≤ l ∧ l ≤ n := by
      unfold st3 at h3
      split at h3
      · rename_i hz
        have := (get_of hz).1
        split at h3
        · cases h3
          have := dg_le M (k + 1) (by omega)
          omega
        · cases h3
      · cases h3; omega
    have a4 : l ≤ q ∧ q ≤ n := by
      unfold st4 at h4
      split at h4
      · rename_i hz
        have hlM : l < M.length := by rcases hz with hz | hz <;> exact (get_of hz).1
        have hs : l + 1 ≤ sgn M (l + 1) ∧ sgn M (l + 1) ≤ M.length := by
          unfold sgn
          split
          · rename_i hz'
            have : l + 1 < M.length := by rcases hz' with hz' | hz' <;> exact (get_of hz').1
            omega
          · omega
        split at h4
        · cases h4
          have := dg_le M (sgn M (l + 1)) hs.2
          omega
        · cases h4
      · cases h4; omega
    omega
  · rw [nt_past hl (by omega)] at h; cases h

set_option maxRecDepth 100000 in
set_option maxHeartbeats 2000000 in
theorem walk_no (ad : Addr) (n cap i : Nat) (M : List UInt8) (w : World) (hs : Src w (some ad) n cap M) (hn : n ≤ 1048576) (him : i ≤ 9223372036854775807) (hnt : nt M i = none) :
    Calls Try.prog 3 #[.slice (some ad) n cap, .int .i64 i] w fun e w' => e = .returned (.bool true) ∧ Below w.heap.size w w' := by
  obtain ⟨i0, hi, hz0, hz1, hz2⟩ := info_parts Try.info5
  have HS := (show Hid (Src w (some ad) n cap M) from hs)
  have HT := (show Hid (nt M i = none) from hnt)
  clear hs hnt
  have heq := fun (w : World) (a : Option Addr) (n c n' c' : Nat) => Lib.run_eql_slice_nil (P := Try.prog) w 22 5 a n c n' c' Try.underlying22
  go_enter Try.func3, Try.ntmps3
  go_wp2_with (first
    | (go_at_call 9; go_in)
    | (at_make; refine buf_make_len rfl (.tmp 24) (.tmp 24) 22 rfl i0 Try.underlying22 hi hz0 hz1 hz2 .i64 .i64 _ _ n n rfl rfl rfl rfl (Nat.le_refl _) (by omega) ?_; intro w1 hb1 hl1)
    | (refine buf_copy rfl (.tmp 26) (.tmp 27) 22 rfl Try.underlying22 Try.size5 w.heap.size w n cap (List.replicate n 0) M ad rfl rfl hb1 (by simp) HS.out.len ((HS.out.later hb1.below).cell ad rfl) ?_; intro w2 hd2 hb2))
  clear hb1
  have HZ : Hid (Calls Try.prog 10 #[.slice (some ⟨w.heap.size, 0, none⟩) n n, .int .i64 i] w2 fun e w' => e = .returned (.tuple #[.slice none 0 0, .int .i64 0, .bool false]) ∧ w2 = w') := by
    by_cases hin : i < n
    · exact zz_none w2 w.heap.size n n M i hd2 hn (Nat.le_refl _) (by unfold maxLen; omega) hin HT.out
    · exact zz_out w2 _ n n M i hd2 hn (by omega) him
  have HM : Hid (Calls Try.prog 11 #[.slice (some ⟨w.heap.size, 0, none⟩) n n, .int .i64 i] w2 fun e w' => e = .returned (.tuple #[.int .i64 0, .bool false]) ∧ w2 = w') := by
    have := model_any w2 _ n n M i hd2 hn him
    rw [law, HT.out] at this
    exact this
  clear hd2
  refine HZ.out.mono ?_
  rintro e w3 ⟨rfl, rfl⟩
  go_wp2_with fail
  refine HM.out.mono ?_
  rintro e w3 ⟨rfl, rfl⟩
  go_wp2_with fail
  go_ret
  exact ⟨rfl, hb2⟩

set_option maxRecDepth 100000 in
set_option maxHeartbeats 2000000 in
theorem walk_yes (ad : Addr) (n cap i m : Nat) (M : List UInt8) (w : World) (hs : Src w (some ad) n cap M) (hn : n ≤ 1048576) (hnt : nt M i = some (i + m)) :
    Calls Try.prog 3 #[.slice (some ad) n cap, .int .i64 i] w fun e w' => e = .returned (.bool true) ∧ Below w.heap.size w w' := by
  obtain ⟨i0, hi, hz0, hz1, hz2⟩ := info_parts Try.info5
  have hlt := nt_lt hs.len hnt
  have hm0 : 0 < m := by omega
  have hmn : i + m ≤ n := by omega
  have hin : i < n := by omega
  have HS := (show Hid (Src w (some ad) n cap M) from hs)
  have HT := (show Hid (nt M i = some (i + m)) from hnt)
  clear hs hnt hlt
  go_enter Try.func3, Try.ntmps3
  go_wp2_with (first
    | (go_at_call 9; go_in)
    | (at_make; refine buf_make_len rfl (.tmp 24) (.tmp 24) 22 rfl i0 Try.underlying22 hi hz0 hz1 hz2 .i64 .i64 _ _ n n rfl rfl rfl rfl (Nat.le_refl _) (by omega) ?_; intro w1 hb1 hl1)
    | (refine buf_copy rfl (.tmp 26) (.tmp 27) 22 rfl Try.underlying22 Try.size5 w.heap.size w n cap (List.replicate n 0) M ad rfl rfl hb1 (by simp) HS.out.len ((HS.out.later hb1.below).cell ad rfl) ?_; intro w2 hd2 hb2))
  clear hb1
  have HZ : Hid (Calls Try.prog 10 #[.slice (some ⟨w.heap.size, 0, none⟩) n n, .int .i64 i] w2 fun e w' => e = .returned (.tuple #[.slice (some ⟨w.heap.size, i, none⟩) m (n - i), .int .i64 ((i : Int) + (m : Int)), .bool true]) ∧ w2 = w') :=
    zz_some w2 w.heap.size n n M i m hd2 hn (Nat.le_refl _) (by unfold maxLen; omega) hin HT.out
  have HM : Hid (Calls Try.prog 11 #[.slice (some ⟨w.heap.size, 0, none⟩) n n, .int .i64 i] w2 fun e w' => e = .returned (.tuple #[.int .i64 ((i : Int) + (m : Int)), .bool true]) ∧ w2 = w') := by
    have := model_any w2 _ n n M i hd2 hn (by omega)
    rw [law, HT.out] at this
    exact this
  have HD2 := (show Hid (Dat w2 (some ⟨w.heap.size, 0, none⟩) n M) from hd2)
  clear hd2
  refine HZ.out.mono ?_
  rintro e w3 ⟨rfl, rfl⟩
  go_wp2_with fail
  refine HM.out.mono ?_
  rintro e w3 ⟨rfl, rfl⟩
  clear HZ HM
  have hsub : (i : Int) + (m : Int) - (i : Int) = (m : Int) := by omega
  have hmz : ((m : Int) == 0) = false := by rw [beq_eq_false_iff_ne]; omega
  go_wp2_with fail
  clear hsub hmz
  have hB2 := hb2
  clear hb2
  go_loopg [11] m (fun c v wr => ∃ k : Nat, k ≤ m ∧ c = m - k ∧ v = .int .i64 k ∧ Hid (Dat wr (some ⟨w.heap.size, 0, none⟩) n M) ∧ Below w.heap.size w wr)
  case atStart => exact ⟨0, by omega, rfl, rfl, HD2, hB2⟩
  case round =>
    obtain ⟨k, hk, hck, rfl, HDr, hBr⟩ := hrel
    have HCK := (show Hid (gk = m - k) from hck)
    clear hck hB2 HD2
    by_cases hkm : k < m
    · obtain ⟨x, hcell, -⟩ := byte_at HDr.out (i + k) (by omega)
      have q1 : (k : Int) < (m : Int) := by omega
      have q2 : (i : Int) + (k : Int) < (n : Int) := by omega
      go_wp2_with fail
      go_quiet (fail)
      go_wp2_with fail
      go_roundg (m - (k + 1))
      case measure => rw [HCK.out]; omega
      case rel => exact ⟨k + 1, by omega, rfl, by go_num, dat_drewN HDr.out _, below_drewN hBr _⟩
    · obtain rfl : k = m := by omega
      have q1 : (0 : Int) < (k : Int) := by omega
      have q2 : (i : Int) < (n : Int) := by omega
      have hpe := fun (w : World) (a : Addr) => run_eql_ptr_same (P := Try.prog) w a Try.underlying28 hi
      go_wp2_with fail
      go_quiet (fail)
      go_wp2_with fail
      go_ret
      refine ⟨?_, below_drewN hBr _⟩
      first | rfl | (simp; done)

set_option maxRecDepth 100000 in
theorem walk (a0 : Option Addr) (len0 cap0 : Nat) (z0 : List Int) (a1 : Int) (w : World) (w0 : IsRow .u8 w a0 len0 cap0 z0) (w1 : (Lit.int .i64 a1).wf = true) :
    Calls Try.prog 3 #[.slice a0 len0 cap0, .int .i64 a1] w fun e w' => e = .returned (.bool true) ∧ Below w.heap.size w w' := by
  obtain ⟨M, hM⟩ := src_of w0
  have hlm : len0 ≤ maxLen := Nat.le_trans hM.le hM.cm
  unfold maxLen at hlm
  have ha : a1 ≤ 9223372036854775807 := by
    have : IntKind.i64.min ≤ a1 ∧ a1 ≤ IntKind.i64.max := by simpa [Lit.wf] using w1
    have h2 : IntKind.i64.max = 9223372036854775807 := by decide
    omega
  clear w0 w1
  by_cases h0 : len0 ≤ 1048576
  · by_cases h1 : a1 < 0
    · clear hM
      go_enter Try.func3, Try.ntmps3
      go_wp2
      go_ret
      exact ⟨rfl, Below.refl _ _⟩
    · obtain ⟨i, rfl⟩ : ∃ i : Nat, a1 = (i : Int) := ⟨a1.toNat, by omega⟩
      cases a0 with
      | none =>
        obtain ⟨rfl, rfl⟩ := hM.nil rfl
        exact walk_nil i w (by omega)
      | some ad =>
        cases hnt : nt M i with
        | none => exact walk_no ad len0 cap0 i M w hM h0 (by omega) hnt
        | some q =>
          have hq := nt_lt hM.len hnt
          obtain ⟨m, rfl⟩ : ∃ m, q = i + m := ⟨q - i, by omega⟩
          exact walk_yes ad len0 cap0 i m M w hM h0 hnt
  · have h0' : (1048576 : Int) < (len0 : Int) := by omega
    clear hM
    go_enter Try.func3, Try.ntmps3
    go_wp2
    go_ret
    exact ⟨rfl, Below.refl _ _⟩
end Go.Proofs.Qxb6601169a.NumWalk
