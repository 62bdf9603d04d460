/-
  The walk of numberText, stage by stage; ZZnumberText.
-/
import Derived.Test.Qxb6601169aNumCalls
import Derived.Deep.Cut
namespace Go.Proofs.Qxb6601169a.NumText
open Go.RowKit Go.Proofs.Qxb6601169a.Num Go.Proofs.Qxb6601169a.NumCalls

/-- What numberText answers. -/
def txt (g cap i : Nat) : Option Nat → Value
  | none => .tuple #[.slice none 0 0, .int .i64 0, .bool false]
  | some q => .tuple #[.slice (some ⟨g, i, none⟩) (q - i) (cap - i), .int .i64 q, .bool true]

/-- The byte at place j is the number x. -/
structure Byte (M : List UInt8) (j : Nat) (x : Int) : Prop where
  iff : ∀ k : UInt8, M[j]? = some k ↔ x = (k.toNat : Int)

theorem Byte.yes {M : List UInt8} {j : Nat} {x : Int} (h : Byte M j x) (k : UInt8) (z : Int) (hz : z = (k.toNat : Int)) (e : (x == z) = true) : M[j]? = some k :=
  (h.iff k).2 (by rw [← hz]; simpa using e)
theorem Byte.no {M : List UInt8} {j : Nat} {x : Int} (h : Byte M j x) (k : UInt8) (z : Int) (hz : z = (k.toNat : Int)) (e : (x == z) = false) : ¬ M[j]? = some k := by
  intro c
  have := (h.iff k).1 c
  rw [beq_eq_false_iff_ne] at e
  exact e (by rw [hz]; exact this)

theorem byte_at {w : World} {g n : Nat} {M : List UInt8} (hd : Dat w (some ⟨g, 0, none⟩) n M) (j : Nat) (hj : j < n) : ∃ x, w.cell? ⟨g, j, none⟩ = some (.int .u8 x) ∧ Byte M j x := by
  have hj' : j < M.length := by rw [hd.len]; exact hj
  obtain ⟨g', hg, hc⟩ := hd.cell j hj'
  cases hg
  refine ⟨_, hc, ⟨fun k => ?_⟩⟩
  rw [List.getElem?_eq_getElem hj', Option.some.injEq, ← UInt8.toNat_inj]
  omega

theorem past {M : List UInt8} {n : Nat} (hl : M.length = n) {j : Nat} (h : n ≤ j) (k : UInt8) : ¬ M[j]? = some k := by
  rw [List.getElem?_eq_none (by omega)]; simp

theorem digits_yes (w : World) (ao : Option Addr) (n cap : Nat) (M : List UInt8) (q : Nat) (z : Int) (hz : z = (q : Int)) (hd : Dat w ao n M) (hn : n ≤ 1048576) (hi : q ≤ 9223372036854775807) (h : q < dg M q) :
    Calls Try.prog 27 #[.slice ao n cap, .int .i64 z] w fun e w' => e = .returned (.tuple #[.int .i64 (dg M q), .bool true]) ∧ w = w' := by
  subst hz
  have := digits_any w ao n cap M q hd hn hi
  rw [decide_eq_true h] at this
  exact this

theorem digits_no (w : World) (ao : Option Addr) (n cap : Nat) (M : List UInt8) (q : Nat) (z : Int) (hz : z = (q : Int)) (hd : Dat w ao n M) (hn : n ≤ 1048576) (hi : q ≤ 9223372036854775807) (h : ¬ q < dg M q) :
    Calls Try.prog 27 #[.slice ao n cap, .int .i64 z] w fun e w' => e = .returned (.tuple #[.int .i64 (dg M q), .bool false]) ∧ w = w' := by
  subst hz
  have := digits_any w ao n cap M q hd hn hi
  rw [decide_eq_false h] at this
  exact this

theorem st1_yes {M : List UInt8} {i : Nat} (h : M[i]? = some 45) : st1 M i = i + 1 := by unfold st1; rw [if_pos h]
theorem st1_no {M : List UInt8} {i : Nat} (h : ¬ M[i]? = some 45) : st1 M i = i := by unfold st1; rw [if_neg h]
theorem st2_zero {M : List UInt8} {j : Nat} (h : M[j]? = some 48) : st2 M j = some (j + 1) := by unfold st2; rw [if_pos h]
theorem st2_dig {M : List UInt8} {j : Nat} (h : ¬ M[j]? = some 48) (h' : j < dg M j) : st2 M j = some (dg M j) := by unfold st2; rw [if_neg h, if_pos h']
theorem st2_no {M : List UInt8} {j : Nat} (h : ¬ M[j]? = some 48) (h' : ¬ j < dg M j) : st2 M j = none := by unfold st2; rw [if_neg h, if_neg h']
theorem st3_none {M : List UInt8} {j : Nat} (h : ¬ M[j]? = some 46) : st3 M j = some j := by unfold st3; rw [if_neg h]
theorem st3_yes {M : List UInt8} {j : Nat} (h : M[j]? = some 46) (h' : j + 1 < dg M (j + 1)) : st3 M j = some (dg M (j + 1)) := by unfold st3; rw [if_pos h, if_pos h']
theorem st3_no {M : List UInt8} {j : Nat} (h : M[j]? = some 46) (h' : ¬ j + 1 < dg M (j + 1)) : st3 M j = none := by unfold st3; rw [if_pos h, if_neg h']
theorem st4_none {M : List UInt8} {j : Nat} (h : ¬ M[j]? = some 101) (h' : ¬ M[j]? = some 69) : st4 M j = some j := by unfold st4; rw [if_neg (fun c => c.elim h h')]
theorem st4_yes {M : List UInt8} {j q : Nat} (h : M[j]? = some 101 ∨ M[j]? = some 69) (hq : sgn M (j + 1) = q) (h' : q < dg M q) : st4 M j = some (dg M q) := by unfold st4; rw [if_pos h, hq, if_pos h']
theorem st4_no {M : List UInt8} {j q : Nat} (h : M[j]? = some 101 ∨ M[j]? = some 69) (hq : sgn M (j + 1) = q) (h' : ¬ q < dg M q) : st4 M j = none := by unfold st4; rw [if_pos h, hq, if_neg h']
theorem sgn_yes {M : List UInt8} {j : Nat} (h : M[j]? = some 43 ∨ M[j]? = some 45) : sgn M j = j + 1 := by unfold sgn; rw [if_pos h]
theorem sgn_no {M : List UInt8} {j : Nat} (h : ¬ M[j]? = some 43) (h' : ¬ M[j]? = some 45) : sgn M j = j := by unfold sgn; rw [if_neg (fun c => c.elim h h')]

theorem nt_none2 {M : List UInt8} {i j : Nat} (h1 : st1 M i = j) (h2 : st2 M j = none) : nt M i = none := by unfold nt; rw [h1, h2]; rfl
theorem nt_none3 {M : List UInt8} {i j k : Nat} (h1 : st1 M i = j) (h2 : st2 M j = some k) (h3 : st3 M k = none) : nt M i = none := by unfold nt; rw [h1, h2]; show (st3 M k).bind _ = _; rw [h3]; rfl
theorem nt_four {M : List UInt8} {i j k l : Nat} (h1 : st1 M i = j) (h2 : st2 M j = some k) (h3 : st3 M k = some l) : nt M i = st4 M l := by unfold nt; rw [h1, h2]; show (st3 M k).bind _ = _; rw [h3]; rfl

set_option maxRecDepth 100000 in
set_option maxHeartbeats 4000000 in
theorem text_in (w : World) (g n cap : Nat) (M : List UInt8) (i : Nat) (hd : Dat w (some ⟨g, 0, none⟩) n M) (hn : n ≤ 1048576) (hnc : n ≤ cap) (hcm : cap ≤ maxLen) (hi : i < n) :
    Calls Try.prog 20 #[.slice (some ⟨g, 0, none⟩) n cap, .int .i64 i] w fun e w' => e = .returned (txt g cap i (nt M i)) ∧ w = w' := by
  have HD := (show Hid (Dat w (some ⟨g, 0, none⟩) n M) from hd)
  have HL := (show Hid (M.length = n) from hd.len)
  clear hd
  unfold maxLen at hcm
  go_enter Try.func20, Try.ntmps20
  refine wp_seq_k fun K1 h1 => ?_
  have H1 := (show Hid _ from h1)
  clear h1
  go_wp2
  refine H1.out _ _ ?_
  clear H1
  refine wp_seq_k fun K2 h2 => ?_
  have H2 := (show Hid _ from h2)
  clear h2
  go_wp2
  refine H2.out _ _ ?_
  clear H2
  refine wp_seq_k fun K3 h3 => ?_
  go_cut [1] from 8 (fun v wx => ∃ j : Nat, Hid (st1 M i = j) ∧ i ≤ j ∧ j ≤ n ∧ v = .int .i64 j ∧ w = wx)
  case first =>
    clear h3
    obtain ⟨x, hc, hB⟩ := byte_at HD.out i hi
    cases hx : (x == 45) with
    | true =>
      have HS := (show Hid (st1 M i = i + 1) from st1_yes (hB.yes 45 45 rfl hx))
      go_wp2
      go_meet
      case rel => exact ⟨i + 1, HS.out, by omega, by omega, by go_num, rfl⟩
    | false =>
      have HS := (show Hid (st1 M i = i) from st1_no (hB.no 45 45 rfl hx))
      go_wp2
      go_meet
      case rel => exact ⟨i, HS.out, by omega, by omega, rfl, rfl⟩
  case rest =>
    obtain ⟨j, S1, hij, hjn, rfl, rfl⟩ := hcut
    refine h3 _ _ ?_
    clear h3
    refine wp_seq_k fun K4 h4 => ?_
    go_cut [1] from 8 (fun v wx => ∃ k : Nat, Hid (st2 M j = some k) ∧ i < k ∧ k ≤ n ∧ v = .int .i64 k ∧ w = wx)
    case first =>
      clear h4
      by_cases hj : j < n
      · obtain ⟨x, hc, hB⟩ := byte_at HD.out j hj
        cases hx : (x == 48) with
        | true =>
          have HS := (show Hid (st2 M j = some (j + 1)) from st2_zero (hB.yes 48 48 rfl hx))
          go_wp2
          go_meet
          case rel => exact ⟨j + 1, HS.out, by omega, by omega, by go_num, rfl⟩
        | false =>
          by_cases hq : j < dg M j
          · have HS := (show Hid (st2 M j = some (dg M j)) from st2_dig (hB.no 48 48 rfl hx) hq)
            have hle := dg_le M j (by rw [HL.out]; omega)
            rw [HL.out] at hle
            go_wp2_with fail
            refine (digits_yes w _ n cap M j _ rfl HD.out hn (by omega) hq).mono ?_
            rintro e w1 ⟨rfl, rfl⟩
            go_wp2_with fail
            go_meet
            case rel => exact ⟨dg M j, HS.out, by omega, hle, rfl, rfl⟩
          · have HN := (show Hid (nt M i = none) from nt_none2 S1.out (st2_no (hB.no 48 48 rfl hx) hq))
            go_wp2_with fail
            refine (digits_no w _ n cap M j _ rfl HD.out hn (by omega) hq).mono ?_
            rintro e w1 ⟨rfl, rfl⟩
            go_wp2_with fail
            go_ret3
            exact ⟨by rw [HN.out]; rfl, rfl⟩
      · have hq : ¬ j < dg M j := by rw [dg_end M j (by rw [HL.out]; omega)]; omega
        have HN := (show Hid (nt M i = none) from nt_none2 S1.out (st2_no (past HL.out (by omega) _) hq))
        have hj' : decide ((j : Int) < (n : Int)) = false := by simp; omega
        go_wp2_with fail
        refine (digits_no w _ n cap M j _ rfl HD.out hn (by omega) hq).mono ?_
        rintro e w1 ⟨rfl, rfl⟩
        go_wp2_with fail
        go_ret3
        exact ⟨by rw [HN.out]; rfl, rfl⟩
    case rest =>
      obtain ⟨k, S2, hik, hkn, rfl, rfl⟩ := hcut
      refine h4 _ _ ?_
      clear h4
      refine wp_seq_k fun K5 h5 => ?_
      go_cut [1] from 8 (fun v wx => ∃ l : Nat, Hid (st3 M k = some l) ∧ i < l ∧ l ≤ n ∧ v = .int .i64 l ∧ w = wx)
      case first =>
        clear h5
        by_cases hk : k < n
        · obtain ⟨x, hc, hB⟩ := byte_at HD.out k hk
          cases hx : (x == 46) with
          | true =>
            by_cases hq : k + 1 < dg M (k + 1)
            · have HS := (show Hid (st3 M k = some (dg M (k + 1))) from st3_yes (hB.yes 46 46 rfl hx) hq)
              have hle := dg_le M (k + 1) (by rw [HL.out]; omega)
              rw [HL.out] at hle
              go_wp2_with fail
              refine (digits_yes w _ n cap M (k + 1) _ (by omega) HD.out hn (by omega) hq).mono ?_
              rintro e w1 ⟨rfl, rfl⟩
              go_wp2_with fail
              go_meet
              case rel => exact ⟨dg M (k + 1), HS.out, by omega, hle, rfl, rfl⟩
            · have HN := (show Hid (nt M i = none) from nt_none3 S1.out S2.out (st3_no (hB.yes 46 46 rfl hx) hq))
              go_wp2_with fail
              refine (digits_no w _ n cap M (k + 1) _ (by omega) HD.out hn (by omega) hq).mono ?_
              rintro e w1 ⟨rfl, rfl⟩
              go_wp2_with fail
              go_ret3
              exact ⟨by rw [HN.out]; rfl, rfl⟩
          | false =>
            have HS := (show Hid (st3 M k = some k) from st3_none (hB.no 46 46 rfl hx))
            go_wp2
            go_meet
            case rel => exact ⟨k, HS.out, by omega, by omega, rfl, rfl⟩
        · have HS := (show Hid (st3 M k = some k) from st3_none (past HL.out (by omega) _))
          have hk' : decide ((k : Int) < (n : Int)) = false := by simp; omega
          go_wp2
          go_meet
          case rel => exact ⟨k, HS.out, by omega, by omega, rfl, rfl⟩
      case rest =>
        obtain ⟨l, S3, hil, hln, rfl, rfl⟩ := hcut
        refine h5 _ _ ?_
        clear h5
        refine wp_seq_k fun K6 h6 => ?_
        go_cut [1] from 8 (fun v wx => ∃ q : Nat, Hid (st4 M l = some q) ∧ i < q ∧ q ≤ n ∧ v = .int .i64 q ∧ w = wx)
        case first =>
          clear h6
          by_cases hl : l < n
          · obtain ⟨x, hc, hB⟩ := byte_at HD.out l hl
            have hE : (((x == 101) = true ∨ ((x == 101) = false ∧ (x == 69) = true)) ∧ (M[l]? = some 101 ∨ M[l]? = some 69)) ∨ ((x == 101) = false ∧ (x == 69) = false) := by
              cases h1 : (x == 101) with
              | true => exact .inl ⟨.inl rfl, .inl (hB.yes 101 101 rfl h1)⟩
              | false =>
                cases h2 : (x == 69) with
                | true => exact .inl ⟨.inr ⟨rfl, rfl⟩, .inr (hB.yes 69 69 rfl h2)⟩
                | false => exact .inr ⟨rfl, rfl⟩
            rcases hE with ⟨hE, hM⟩ | ⟨hE1, hE2⟩
            · have HM := (show Hid _ from hM)
              clear hM
              by_cases hl1 : l + 1 < n
              · obtain ⟨y, hcy, hBy⟩ := byte_at HD.out (l + 1) hl1
                have hS : (((y == 43) = true ∨ ((y == 43) = false ∧ (y == 45) = true)) ∧ sgn M (l + 1) = l + 1 + 1) ∨ (((y == 43) = false ∧ (y == 45) = false) ∧ sgn M (l + 1) = l + 1) := by
                  cases h1 : (y == 43) with
                  | true => exact .inl ⟨.inl rfl, sgn_yes (.inl (hBy.yes 43 43 rfl h1))⟩
                  | false =>
                    cases h2 : (y == 45) with
                    | true => exact .inl ⟨.inr ⟨rfl, rfl⟩, sgn_yes (.inr (hBy.yes 45 45 rfl h2))⟩
                    | false => exact .inr ⟨⟨rfl, rfl⟩, sgn_no (hBy.no 43 43 rfl h1) (hBy.no 45 45 rfl h2)⟩
                rcases hS with ⟨hS, hG⟩ | ⟨⟨hS1, hS2⟩, hG⟩
                · have HG := (show Hid (sgn M (l + 1) = l + 1 + 1) from hG)
                  clear hG
                  have hle := dg_le M (l + 1 + 1) (by rw [HL.out]; omega)
                  rw [HL.out] at hle
                  by_cases hq : l + 1 + 1 < dg M (l + 1 + 1)
                  · have HS := (show Hid (st4 M l = some (dg M (l + 1 + 1))) from st4_yes HM.out HG.out hq)
                    rcases hE with hE | ⟨hE1, hE2⟩ <;> rcases hS with hS | ⟨hS1, hS2⟩
                    all_goals
                      go_wp2_with fail
                      refine (digits_yes w _ n cap M (l + 1 + 1) _ (by omega) HD.out hn (by omega) hq).mono ?_
                      rintro e w1 ⟨rfl, rfl⟩
                      go_wp2_with fail
                      go_meet
                      case rel => exact ⟨dg M (l + 1 + 1), HS.out, by omega, hle, rfl, rfl⟩
                  · have HN := (show Hid (nt M i = none) from (nt_four S1.out S2.out S3.out).trans (st4_no HM.out HG.out hq))
                    rcases hE with hE | ⟨hE1, hE2⟩ <;> rcases hS with hS | ⟨hS1, hS2⟩
                    all_goals
                      go_wp2_with fail
                      refine (digits_no w _ n cap M (l + 1 + 1) _ (by omega) HD.out hn (by omega) hq).mono ?_
                      rintro e w1 ⟨rfl, rfl⟩
                      go_wp2_with fail
                      go_ret3
                      exact ⟨by rw [HN.out]; rfl, rfl⟩
                · have HG := (show Hid (sgn M (l + 1) = l + 1) from hG)
                  clear hG
                  have hle := dg_le M (l + 1) (by rw [HL.out]; omega)
                  rw [HL.out] at hle
                  by_cases hq : l + 1 < dg M (l + 1)
                  · have HS := (show Hid (st4 M l = some (dg M (l + 1))) from st4_yes HM.out HG.out hq)
                    rcases hE with hE | ⟨hE1, hE2⟩
                    all_goals
                      go_wp2_with fail
                      refine (digits_yes w _ n cap M (l + 1) _ (by omega) HD.out hn (by omega) hq).mono ?_
                      rintro e w1 ⟨rfl, rfl⟩
                      go_wp2_with fail
                      go_meet
                      case rel => exact ⟨dg M (l + 1), HS.out, by omega, hle, rfl, rfl⟩
                  · have HN := (show Hid (nt M i = none) from (nt_four S1.out S2.out S3.out).trans (st4_no HM.out HG.out hq))
                    rcases hE with hE | ⟨hE1, hE2⟩
                    all_goals
                      go_wp2_with fail
                      refine (digits_no w _ n cap M (l + 1) _ (by omega) HD.out hn (by omega) hq).mono ?_
                      rintro e w1 ⟨rfl, rfl⟩
                      go_wp2_with fail
                      go_ret3
                      exact ⟨by rw [HN.out]; rfl, rfl⟩
              · have HG := (show Hid (sgn M (l + 1) = l + 1) from sgn_no (past HL.out (by omega) _) (past HL.out (by omega) _))
                have hq : ¬ l + 1 < dg M (l + 1) := by rw [dg_end M (l + 1) (by rw [HL.out]; omega)]; omega
                have HN := (show Hid (nt M i = none) from (nt_four S1.out S2.out S3.out).trans (st4_no HM.out HG.out hq))
                have hl1' : decide ((l : Int) + 1 < (n : Int)) = false := by simp; omega
                rcases hE with hE | ⟨hE1, hE2⟩
                all_goals
                  go_wp2_with fail
                  refine (digits_no w _ n cap M (l + 1) _ (by omega) HD.out hn (by omega) hq).mono ?_
                  rintro e w1 ⟨rfl, rfl⟩
                  go_wp2_with fail
                  go_ret3
                  exact ⟨by rw [HN.out]; rfl, rfl⟩
            · have HS := (show Hid (st4 M l = some l) from st4_none (hB.no 101 101 rfl hE1) (hB.no 69 69 rfl hE2))
              go_wp2_with fail
              go_meet
              case rel => exact ⟨l, HS.out, by omega, by omega, rfl, rfl⟩
          · have HS := (show Hid (st4 M l = some l) from st4_none (past HL.out (by omega) _) (past HL.out (by omega) _))
            have hl' : decide ((l : Int) < (n : Int)) = false := by simp; omega
            go_wp2_with fail
            go_meet
            case rel => exact ⟨l, HS.out, by omega, by omega, rfl, rfl⟩
        case rest =>
          obtain ⟨q, S4, hiq, hqn, rfl, rfl⟩ := hcut
          refine h6 _ _ ?_
          clear h6
          have HN := (show Hid (nt M i = some q) from (nt_four S1.out S2.out S3.out).trans S4.out)
          go_wp2_with fail
          go_ret3
          refine ⟨?_, rfl⟩
          rw [HN.out]
          rfl
end Go.Proofs.Qxb6601169a.NumText
