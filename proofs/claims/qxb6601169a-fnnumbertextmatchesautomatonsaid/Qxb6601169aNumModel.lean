/-
  The walk of numModel.
-/
import Derived.Test.Qxb6601169aNumStep
namespace Go.Proofs.Qxb6601169a.NumModel
open Go.RowKit Go.Proofs.Qxb6601169a.Num Go.Proofs.Qxb6601169a.NumCalls Go.Proofs.Qxb6601169a.NumStep

/-- What numModel answers. -/
def modVal : Option Nat → Value
  | none => .tuple #[.int .i64 0, .bool false]
  | some q => .tuple #[.int .i64 q, .bool true]

theorem nm_of {M : List UInt8} {i j s : Nat} (h : fin M i 0 = (j, s)) (b : Bool) (hb : acc s = b) : nm M i = if b then some j else none := by
  unfold nm; rw [h]; simp only []; rw [hb]

set_option maxHeartbeats 1000000 in
theorem model_any (w : World) (ao : Option Addr) (n cap : Nat) (M : List UInt8) (i : Nat) (hd : Dat w ao n M) (hn : n ≤ 1048576) (hi : i ≤ 9223372036854775807) :
    Calls Try.prog 11 #[.slice ao n cap, .int .i64 i] w fun e w' => e = .returned (modVal (nm M i)) ∧ w = w' := by
  have HD := (show Hid (Dat w ao n M) from hd)
  have HL := (show Hid (M.length = n) from hd.len)
  clear hd
  go_enter Try.func11, Try.ntmps11
  go_wp2
  go_loop [6, 7] (fun a b => ∃ s j : Nat, s ≤ 8 ∧ i ≤ j ∧ j ≤ 9223372036854775807 ∧ a = .int .i64 s ∧ b = .int .i64 j ∧ Aside (fin M j s = fin M i 0)) (fun _ b => n - (intOf b).toNat)
  case atStart => exact ⟨0, i, by omega, Nat.le_refl _, hi, rfl, rfl, rfl⟩
  case round =>
    obtain ⟨s, j, hs, hj, hjm, rfl, rfl, hA⟩ := hrel
    by_cases hlt : j < n
    · have hjM : j < M.length := by rw [HL.out]; exact hlt
      obtain ⟨g, hg, hc⟩ := HD.out.cell j hjM
      obtain ⟨c, ec⟩ : ∃ c : UInt8, c = M[j] := ⟨_, rfl⟩
      rw [← ec] at hc
      subst hg
      have hlt' : (j : Int) < (n : Int) := by omega
      cases hst : stp s c with
      | none =>
        have hI : stI s c = -1 := by unfold stI; rw [hst]
        have hf : fin M i 0 = (j, s) := by rw [← hA.out]; exact fin_stuck M j s hjM (by rw [← ec]; exact hst)
        have HF := (show Hid (fin M i 0 = (j, s)) from hf)
        have HI := (show Hid (stI s c = -1) from hI)
        clear hf hI hst ec hA
        go_wp2_with fail
        refine (step_any s c _ hs).mono ?_
        rintro e w1 ⟨rfl, rfl⟩
        rw [HI.out]
        go_wp2_with fail
        refine (acc_any s _ hs).mono ?_
        rintro e w1 ⟨rfl, rfl⟩
        cases hac : acc s with
        | true =>
          have HN := (show Hid (nm M i = some j) from nm_of HF.out true hac)
          go_wp2_with fail
          go_ret2
          exact ⟨by rw [HN.out]; rfl, rfl⟩
        | false =>
          have HN := (show Hid (nm M i = none) from nm_of HF.out false hac)
          go_wp2_with fail
          go_ret2
          exact ⟨by rw [HN.out]; rfl, rfl⟩
      | some t =>
        have hI : stI s c = (t : Int) := by unfold stI; rw [hst]
        have ht := stp_le s c t hst
        have hf : fin M (j + 1) t = fin M i 0 := by rw [← hA.out]; exact (fin_step M j s t hjM (by rw [← ec]; exact hst)).symm
        have HF := (show Hid (fin M (j + 1) t = fin M i 0) from hf)
        have HI := (show Hid (stI s c = (t : Int)) from hI)
        have hne : ((t : Int) == -1) = false := by rw [beq_eq_false_iff_ne]; omega
        clear hf hI hst ec hA
        go_wp2_with fail
        refine (step_any s c _ hs).mono ?_
        rintro e w1 ⟨rfl, rfl⟩
        rw [HI.out]
        go_wp2_with fail
        go_round
        case rel => exact ⟨t, j + 1, ht, by omega, by omega, rfl, by go_num, HF.out⟩
        case measure => simp [intOf]; omega
    · have hf : fin M i 0 = (j, s) := by rw [← hA.out]; exact fin_end M j s (by rw [HL.out]; omega)
      have HF := (show Hid (fin M i 0 = (j, s)) from hf)
      clear hf hA
      go_wp2_with fail
      refine (acc_any s _ hs).mono ?_
      rintro e w1 ⟨rfl, rfl⟩
      cases hac : acc s with
      | true =>
        have HN := (show Hid (nm M i = some j) from nm_of HF.out true hac)
        go_wp2_with fail
        go_ret2
        exact ⟨by rw [HN.out]; rfl, rfl⟩
      | false =>
        have HN := (show Hid (nm M i = none) from nm_of HF.out false hac)
        go_wp2_with fail
        go_ret2
        exact ⟨by rw [HN.out]; rfl, rfl⟩
end Go.Proofs.Qxb6601169a.NumModel
