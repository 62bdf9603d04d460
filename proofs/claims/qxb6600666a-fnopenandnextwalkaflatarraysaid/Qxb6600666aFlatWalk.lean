/-
  The walk of FnOpenAndNextWalkAFlatArray.
-/
import Derived.Test.Qxb6600666aDec
import Derived.Test.Qxb6600666aFlatCalls
namespace Go.Proofs.Qxb6600666a.FlatWalk
open Go.RowKit Go.Proofs.Qxb6600666a.Plain Go.Proofs.Qxb6600666a.Buf Go.Proofs.Qxb6600666a.Dec Go.Proofs.Qxb6600666a.Ws Go.Proofs.Qxb6600666a.Flat Go.Proofs.Qxb6600666a.FlatCalls

/-- The letter of element j. -/
def let26 (s : ByteArray) (j : Nat) : UInt8 := UInt8.ofNat (97 + (s.data.toList.getD j 0).toNat % 26)

theorem let26_nat (s : ByteArray) (j : Nat) : (let26 s j).toNat = 97 + (s.data.toList.getD j 0).toNat % 26 := by
  unfold let26; simp; omega

theorem let26_ok (s : ByteArray) (j : Nat) : 97 ≤ (let26 s j).toNat ∧ (let26 s j).toNat ≤ 122 := by rw [let26_nat]; omega

theorem let26_at (s : ByteArray) (j : Nat) (h : j < s.size) : (97 + (s[j].toNat : Int) % 26) = ((let26 s j).toNat : Int) := by
  rw [let26_nat]
  have hl : s.data.toList.length = s.size := rfl
  have : s.data.toList.getD j 0 = s[j] := by
    rw [List.getD_eq_getElem?_getD, List.getElem?_eq_getElem (by omega)]; rfl
  rw [this]; omega

theorem gap_len (gs : Nat → ByteArray) (N k : Nat) (h : k < N) : (gap gs N k).length = (gs k).size := by unfold gap; rw [if_pos h, wsOf_len]

theorem gap_past (gs : Nat → ByteArray) (N : Nat) : ∀ k, N ≤ k → gap gs N k = [] := by intro k h; unfold gap; rw [if_neg (by omega)]

theorem open_r (t : ByteArray) (d : Int) (c : UInt8) (L : List UInt8) (w : World) (q : Nat) (m o : Bool) (hL : t.data.toList = L) (hr : op L 0 c = (q, m, o)) (ht : t.size ≤ 1000000000) (hdep : d ≤ 10000) :
    Calls Try.prog 19 #[.string t, .int .i64 0, .int .i64 d, .int .u8 c.toNat] w fun e w' => e = .returned (.tuple #[.int .i64 q, .bool m, .bool o]) ∧ Below w.heap.size w w' := by
  have h := zzopen_any 0 t d c w ht (by omega) hdep
  rw [hL, hr] at h
  exact h

theorem next_r (p : Nat) (z : Int) (t : ByteArray) (c : UInt8) (L : List UInt8) (w : World) (q : Nat) (m o : Bool) (hz : z = p) (hL : t.data.toList = L) (hr : nx L p c = (q, m, o)) (ht : t.size ≤ 1000000000) (hp : p ≤ t.size + 1) :
    Calls Try.prog 16 #[.string t, .int .i64 z, .int .u8 c.toNat] w fun e w' => e = .returned (.tuple #[.int .i64 q, .bool m, .bool o]) ∧ Below w.heap.size w w' := by
  subst hz
  have h := zznext_any p t c w ht hp
  rw [hL, hr] at h
  exact h

/-- What is built so far, and what is still to come. -/
theorem start_len (n : Nat) (e : Nat → UInt8) (G : Nat → List UInt8) (h : (full n e G).length ≤ 10000000) : ([] ++ [(91 : UInt8)]).length + (G 0).length ≤ 1000000000 := by
  unfold full at h; simp at h ⊢; omega

theorem start_eq (n : Nat) (e : Nat → UInt8) (G : Nat → List UInt8) : [] ++ [91] ++ G 0 ++ body n e G 0 = full n e G := by unfold full; simp

theorem len1 {n : Nat} {e : Nat → UInt8} {G : Nat → List UInt8} {L : List UInt8} {m : Nat} (h : L ++ body n e G m = full n e G) (hF : (full n e G).length ≤ 10000000) : L.length + 1 ≤ 1000000000 := by
  rw [← h] at hF; simp at hF; omega

theorem len2 {n : Nat} {e : Nat → UInt8} {G : Nat → List UInt8} {L : List UInt8} {m : Nat} (h : L ++ body n e G m = full n e G) (hF : (full n e G).length ≤ 10000000) (hm : m < n) : (L ++ [e m]).length + (G (1 + 2 * m)).length ≤ 1000000000 := by
  rw [← h] at hF
  by_cases h' : m + 1 < n
  · rw [body_mid n e G m h'] at hF; simp at hF ⊢; omega
  · rw [body_last n e G m (by omega)] at hF; simp at hF ⊢; omega

theorem len3 {n : Nat} {e : Nat → UInt8} {G : Nat → List UInt8} {L : List UInt8} {m : Nat} (h : L ++ body n e G m = full n e G) (hF : (full n e G).length ≤ 10000000) (hm : m < n) : (L ++ [e m] ++ G (1 + 2 * m)).length + 1 ≤ 1000000000 := by
  have := len2 h hF hm
  rw [← h] at hF
  by_cases h' : m + 1 < n
  · rw [body_mid n e G m h'] at hF; simp at hF ⊢; omega
  · rw [body_last n e G m (by omega)] at hF; simp at hF ⊢; omega

theorem len4 {n : Nat} {e : Nat → UInt8} {G : Nat → List UInt8} {L : List UInt8} {m : Nat} (h : L ++ body n e G m = full n e G) (hF : (full n e G).length ≤ 10000000) (h' : m + 1 < n) : (L ++ [e m] ++ G (1 + 2 * m) ++ [44]).length + (G (2 + 2 * m)).length ≤ 1000000000 := by
  rw [← h, body_mid n e G m h'] at hF; simp at hF ⊢; omega

theorem step_mid {n : Nat} {e : Nat → UInt8} {G : Nat → List UInt8} {L : List UInt8} {m : Nat} (h : L ++ body n e G m = full n e G) (h' : m + 1 < n) : L ++ [e m] ++ G (1 + 2 * m) ++ [44] ++ G (2 + 2 * m) ++ body n e G (m + 1) = full n e G := by
  rw [← h, body_mid n e G m h']; simp

theorem step_last {n : Nat} {e : Nat → UInt8} {G : Nat → List UInt8} {L : List UInt8} {m : Nat} (h : L ++ body n e G m = full n e G) (h' : m + 1 = n) : L ++ [e m] ++ G (1 + 2 * m) ++ body n e G (m + 1) = full n e G := by
  rw [← h, body_last n e G m h', h', body_end]; simp

set_option maxRecDepth 100000 in
set_option maxHeartbeats 4000000 in
theorem walk_main (s : ByteArray) (ad : Option Addr) (N cap : Nat) (gs : Nat → ByteArray) (d : Int) (w : World) (hs : s.size ≤ 1048576) (hN : N ≤ 65536) (htot : (s.size : Int) + 16 * (N : Int) ≤ 1048576)
    (hg : Gaps w ad N gs) (hgs : ∀ k, k < N → (gs k).size ≤ maxLen) :
    Calls Try.prog 8 #[.string s, .slice ad N cap, .int .i64 d] w fun e w' => e = .returned (.bool true) ∧ Below w.heap.size w w' := by
  obtain ⟨i0, hi, hz0, hz1, hz2⟩ := info_parts Try.info5
  have HB : Hid (Calls Try.prog 20 #[.string s, .slice ad N cap, .int .i64 d] w (Answers gs N w)) := bytes_any s ad N cap gs d w (by unfold maxLen; omega) (by unfold maxLen; omega) hg hgs
  have HG := (show Hid (Gaps w ad N gs) from hg)
  clear hg hgs
  go_enter Try.func8, Try.ntmps8
  go_wp2_with fail
  refine HB.out.mono ?_
  rintro e w' ⟨r, rfl, rfl, hr⟩
  cases r with
  | false =>
    clear hr
    go_wp2_with fail
    go_ret
    exact ⟨rfl, Below.refl _ _⟩
  | true =>
    have HS := (show Hid (∀ k, k < N → (gs k).size ≤ 1048576) from hr rfl)
    clear HB hr
    go_wp2_with fail
    go_loop [7, 8] (fun z i => ∃ (k : Nat) (t : Int), k ≤ N ∧ i = .int .i64 k ∧ z = .int .i64 t ∧ 0 ≤ t ∧ t ≤ 1048576 ∧ Hid (t = (s.size : Int) + 16 * (N : Int) + (SG (gap gs N) k : Int))) (fun _ i => N - (intOf i).toNat)
    case atStart => exact ⟨0, _, by omega, rfl, rfl, by omega, by omega, show _ = _ by simp [SG]⟩
    case round =>
      obtain ⟨k, t, hk, rfl, rfl, ht0, ht1, HT⟩ := hrel
      by_cases hlt : k < N
      · obtain ⟨b, off, rfl, hc⟩ := HG.out k hlt
        have hsz := HS.out k hlt
        by_cases h4 : t + ((gs k).size : Int) ≤ 1048576
        · go_wp2_with fail
          go_round
          case rel => exact ⟨k + 1, _, by omega, by go_num, rfl, by omega, by omega, show _ = _ by rw [HT.out, SG, gap_len _ _ _ hlt]; omega⟩
          case measure => simp [intOf]; omega
        · go_wp2_with fail
          go_ret
          exact ⟨rfl, Below.refl _ _⟩
      · obtain rfl : k = N := by omega
        by_cases hd : d ≤ 10000
        · have hn : s.size ≤ 1048576 := hs
          have hfl := full_len s.size (let26 s) (gap gs k)
          have hsg := SG_le (gap gs k) k (gap_past gs k) (1 + 2 * s.size)
          have hF : (full s.size (let26 s) (gap gs k)).length ≤ 10000000 := by have := HT.out; omega
          have HF := (show Hid _ from hF)
          clear hfl hsg hF
          go_wp2_with (first
            | (at_make; refine buf_make rfl (.const (.int .i64 0)) (.tmp 62) 23 rfl i0 (.int .u8 0) Try.underlying23 hi hz0 hz1 hz2 .i64 .i64 _ (t.toNat + 2 * s.size + 2) rfl rfl (by omega) (by omega) ?_; intro v1 w1 hb1)
            | (at_builtin; refine buf_one rfl (.tmp 64) (.tmp 65) 23 rfl i0 Try.underlying23 hi hz0 hz1 hz2 w.heap.size w v1 [] rfl hb1 rfl _ 91 rfl (by simp) ?_; intro v2 w2 hb2))
          refine (gap_any w.heap.size w v2 _ ad k cap 0 _ gs _ rfl hb2 HG.out (Nat.le_refl _) (start_len _ _ _ HF.out)).mono ?_
          rintro e w3 ⟨v3, rfl, hb3⟩
          go_wp2_with fail
          go_loopg [10, 11, 12] s.size (fun g b c j wr => ∃ (m : Nat) (q : Int) (L : List UInt8), m ≤ s.size ∧ g = s.size - m ∧ j = .int .i64 m ∧ c = .int .i64 q ∧ 0 ≤ q ∧ q ≤ 10000000 ∧ Aside (m < s.size → q = 1 + 2 * (m : Int)) ∧
            Aside (L ++ body s.size (let26 s) (gap gs k) m = full s.size (let26 s) (gap gs k)) ∧ Buf w.heap.size w b L wr)
          case atStart => exact ⟨0, _, _, by omega, rfl, rfl, rfl, by omega, by omega, fun _ => by omega, start_eq _ _ _, hb3⟩
          case round =>
            obtain ⟨m, q, L, hm, hgm, rfl, rfl, hq0, hq1, hq, hL, hb⟩ := hrel
            have HGM := (show Hid (gk = s.size - m) from hgm)
            clear hgm hb1 hb2 hb3
            by_cases hlt : m < s.size
            · have hq' := hq.out hlt
              have hqi : q ≤ 1 + 2 * (m : Int) ∧ 1 + 2 * (m : Int) ≤ q := by omega
              have HQ := (show Hid (q = 1 + 2 * (m : Int)) from hq')
              have hl1 := len1 hL.out HF.out
              have hl2 := len2 hL.out HF.out hlt
              have hl3 := len3 hL.out HF.out hlt
              clear hq' hq
              go_wp2_with (at_builtin; refine buf_one rfl (.tmp 78) (.tmp 84) 23 rfl i0 Try.underlying23 hi hz0 hz1 hz2 w.heap.size w u10 _ rfl hb rfl _ _ (let26_at s m hlt) hl1 ?_; intro v4 w4 hb4)
              refine (gap_any w.heap.size w v4 _ ad k cap (1 + 2 * m) _ gs _ (by have := HQ.out; omega) hb4 HG.out (Nat.le_refl _) hl2).mono ?_
              rintro e w5 ⟨v5, rfl, hb5⟩
              by_cases hmid : m + 1 < s.size
              · have hl4 := len4 hL.out HF.out hmid
                have hmid' : (m : Int) < (s.size : Int) - 1 := by omega
                go_wp2_with (at_builtin; refine buf_one rfl (.tmp 96) (.tmp 97) 23 rfl i0 Try.underlying23 hi hz0 hz1 hz2 w.heap.size w v5 _ rfl hb5 rfl _ 44 rfl hl3 ?_; intro v6 w6 hb6)
                refine (gap_any w.heap.size w v6 _ ad k cap (2 + 2 * m) _ gs _ (by have := HQ.out; omega) hb6 HG.out (Nat.le_refl _) hl4).mono ?_
                rintro e w7 ⟨v7, rfl, hb7⟩
                go_wp2_with fail
                go_roundg (s.size - (m + 1))
                case measure => rw [HGM.out]; omega
                case rel => exact ⟨m + 1, _, _, by omega, rfl, by go_num, rfl, by omega, by omega, fun _ => by have := HQ.out; omega, step_mid hL.out hmid, hb7⟩
              · have hmid' : (s.size : Int) - 1 ≤ (m : Int) := by omega
                go_wp2_with fail
                go_roundg (s.size - (m + 1))
                case measure => rw [HGM.out]; omega
                case rel => exact ⟨m + 1, _, _, by omega, rfl, by go_num, rfl, by omega, by omega, fun h => absurd h (by omega), step_last hL.out (by omega), hb5⟩
            · obtain rfl : m = s.size := by omega
              have hl1 := len1 hL.out HF.out
              have hLe : L ++ [93] = full s.size (let26 s) (gap gs k) := by have := hL.out; rw [body_end] at this; exact this
              have HLE := (show Hid _ from hLe)
              clear hLe hL hq
              go_wp2_with (at_builtin; refine buf_one rfl (.tmp 105) (.tmp 106) 23 rfl i0 Try.underlying23 hi hz0 hz1 hz2 w.heap.size w u10 _ rfl hb rfl _ 93 rfl hl1 ?_; intro v8 w8 hb8; rw [HLE.out] at hb8; obtain ⟨F, hFe⟩ : ∃ F, F = full s.size (let26 s) (gap gs k) := ⟨_, rfl⟩; rw [← hFe] at hb8; obtain ⟨g, cp, hv8⟩ := hb8.form (by rw [hFe, ← HLE.out]; simp); subst hv8; have hcv := hb8.conv (P := Try.prog) 23 9 Try.underlying23 Try.underlying5 Try.underlying9; obtain ⟨T, hT⟩ : ∃ T : ByteArray, T = ⟨F.toArray⟩ := ⟨_, rfl⟩; rw [← hT] at hcv; have HTF : Hid (T.data.toList = full s.size (let26 s) (gap gs k)) := (by rw [hT, hFe]; rfl); clear hT hFe)
              have hTs : T.size = (full s.size (let26 s) (gap gs k)).length := by rw [← HTF.out]; rfl
              have HTS := (show Hid _ from hTs)
              have hTb : T.size ≤ 10000000 := by rw [hTs]; exact HF.out
              clear hTs hcv
              have hst := P3_start s.size (let26 s) (gap gs k) (let26_ok s) (gap_sp gs k)
              obtain ⟨p0, m0, hop, hp0⟩ := hst
              have HOP := (show Hid _ from hop)
              clear hop
              refine (open_r T d 93 _ _ p0 m0 true HTF.out HOP.out (by omega) hd).mono ?_
              rintro e w9 ⟨rfl, hb9⟩
              go_wp2_with fail
              have hB9 : Below w.heap.size w w9 := hb8.below.trans (hb9.mono hb8.base)
              go_loopg [14, 15, 17] s.size (fun g p mr c wr => ∃ (cn pn : Nat) (mb : Bool), cn ≤ s.size ∧ g = s.size - cn ∧ p = .int .i64 pn ∧ mr = .bool mb ∧ c = .int .i64 cn ∧ Aside (P3 s.size (let26 s) (gap gs k) cn pn mb) ∧ Below w.heap.size w wr)
              case atStart => exact ⟨0, p0, m0, by omega, rfl, rfl, rfl, rfl, hp0, hB9⟩
              case round =>
                obtain ⟨cn, pn, mb, hcn, hgc, rfl, rfl, rfl, hP, hBr⟩ := hrel
                have HGC := (show Hid (gk = s.size - cn) from hgc)
                clear hgc hb8 hb9 hB9 hb hp0 HOP
                cases mb with
                | true =>
                  obtain ⟨hc1, hp1, hget, p', m', hnx, hP'⟩ := P3_step s.size (let26 s) (gap gs k) (let26_ok s) (gap_sp gs k) cn pn hP.out
                  have hpT : pn < T.size := by rw [HTS.out]; exact hp1
                  have hgT : T[pn] = let26 s cn := by
                    have h1 : T.data.toList[pn]? = some (let26 s cn) := by rw [HTF.out]; exact hget
                    have h2 : T.data.toList[pn]? = some T[pn] := List.getElem?_eq_getElem hpT
                    exact Option.some.inj (h2.symm.trans h1)
                  have htest : ((T[pn].toNat : Int) != 97 + (s[cn].toNat : Int) % 26) = false := by rw [hgT, let26_at s cn hc1]; simp
                  have hpi : (pn : Int) < (T.size : Int) := by omega
                  have hci : (cn : Int) < (s.size : Int) := by omega
                  have HNX := (show Hid _ from hnx)
                  have HP' := (show Hid _ from hP')
                  clear hget hnx hP' hgT hP
                  go_wp2_with fail
                  go_quiet (fail)
                  go_wp2_with fail
                  refine (next_r (pn + 1) _ T 93 _ _ p' m' true (by omega) HTF.out HNX.out (by omega) (by omega)).mono ?_
                  rintro e w10 ⟨rfl, hb10⟩
                  go_wp2_with fail
                  go_roundg (s.size - (cn + 1))
                  case measure => rw [HGC.out]; omega
                  case rel => exact ⟨cn + 1, p', m', by omega, rfl, rfl, rfl, by go_num, HP'.out, (below_drewN hBr _).trans (hb10.mono hBr.size)⟩
                | false =>
                  have hlast : cn = s.size ∧ pn = T.size := by
                    rcases hP.out with ⟨h, _⟩ | ⟨_, h1, h2⟩
                    · cases h
                    · exact ⟨h1, by rw [HTS.out]; exact h2⟩
                  obtain ⟨rfl, rfl⟩ := hlast
                  go_wp2_with fail
                  go_ret
                  refine ⟨?_, hBr⟩
                  first | rfl | (simp; done)
        · go_wp2_with fail
          go_ret
          exact ⟨rfl, Below.refl _ _⟩

set_option maxRecDepth 100000 in
theorem walk (s : ByteArray) (ad : Option Addr) (N cap : Nat) (gs : Nat → ByteArray) (d : Int) (w : World) (hs : s.size ≤ maxLen) (hN : N ≤ maxLen) (hg : Gaps w ad N gs) (hgs : ∀ k, k < N → (gs k).size ≤ maxLen) :
    Calls Try.prog 8 #[.string s, .slice ad N cap, .int .i64 d] w fun e w' => e = .returned (.bool true) ∧ Below w.heap.size w w' := by
  have HB : Hid (Calls Try.prog 20 #[.string s, .slice ad N cap, .int .i64 d] w (Answers gs N w)) := bytes_any s ad N cap gs d w hs hN hg hgs
  unfold maxLen at hs hN
  by_cases h0 : s.size ≤ 1048576
  · by_cases h1 : N ≤ 65536
    · by_cases h2 : (s.size : Int) + 16 * (N : Int) ≤ 1048576
      · exact walk_main s ad N cap gs d w h0 h1 h2 hg hgs
      · clear hg hgs
        go_enter Try.func8, Try.ntmps8
        go_wp2_with fail
        refine HB.out.mono ?_
        rintro e w' ⟨r, rfl, rfl, hr⟩
        clear hr HB
        cases r <;> (go_wp2_with fail; go_ret; exact ⟨rfl, Below.refl _ _⟩)
    · have h1' : (65536 : Int) < (N : Int) := by omega
      clear hg hgs
      go_enter Try.func8, Try.ntmps8
      go_wp2_with fail
      refine HB.out.mono ?_
      rintro e w' ⟨r, rfl, rfl, hr⟩
      clear hr HB
      cases r <;> (go_wp2_with fail; go_ret; exact ⟨rfl, Below.refl _ _⟩)
  · have h0' : (1048576 : Int) < (s.size : Int) := by omega
    clear hg hgs
    go_enter Try.func8, Try.ntmps8
    go_wp2_with fail
    refine HB.out.mono ?_
    rintro e w' ⟨r, rfl, rfl, hr⟩
    clear hr HB
    cases r <;> (go_wp2_with fail; go_ret; exact ⟨rfl, Below.refl _ _⟩)
end Go.Proofs.Qxb6600666a.FlatWalk
