/-
  The walks of digits, numStep, numAccepting, numModel.
-/
import Derived.Test.Qxb6601169aProg
import Derived.Test.Qxb6601169aBase
import Derived.Test.Qxb6601169aNumPlain
import Derived.WalkKit
import Derived.WalkSpells
import Derived.WalkSmall
import Derived.Deep.LoopGhost
import Derived.Deep.QuietTactic
import Derived.BigQuiet
namespace Go.Proofs.Qxb6601169a.NumCalls
open Go.RowKit Go.Proofs.Qxb6601169a.Buf Go.Proofs.Qxb6601169a.Base Go.Proofs.Qxb6601169a.Num

/-- The slice at ao holds the n bytes M, from the head of a block. -/
structure Dat (w : World) (ao : Option Addr) (n : Nat) (M : List UInt8) : Prop where
  len : M.length = n
  cell : ∀ k (h : k < M.length), ∃ g, ao = some ⟨g, 0, none⟩ ∧ w.cell? ⟨g, k, none⟩ = some (.int .u8 (M[k].toNat : Int))

theorem dig_yes {c : UInt8} {x : Int} (hx : x = (c.toNat : Int)) (h1 : 48 ≤ x) (h2 : x ≤ 57) : isDig c = true := by unfold isDig; simp; omega
theorem dig_lo {c : UInt8} {x : Int} (hx : x = (c.toNat : Int)) (h1 : x < 48) : isDig c = false := by unfold isDig; simp; omega
theorem dig_hi {c : UInt8} {x : Int} (hx : x = (c.toNat : Int)) (h1 : 57 < x) : isDig c = false := by unfold isDig; simp; omega

theorem digits_any (w : World) (ao : Option Addr) (n cap : Nat) (M : List UInt8) (i : Nat) (hd : Dat w ao n M) (hn : n ≤ 1048576) (hi : i ≤ 9223372036854775807) :
    Calls Try.prog 27 #[.slice ao n cap, .int .i64 i] w fun e w' => e = .returned (.tuple #[.int .i64 (dg M i), .bool (decide (i < dg M i))]) ∧ w = w' := by
  have HD := (show Hid (Dat w ao n M) from hd)
  have hlen := hd.len
  have HL := (show Hid (M.length = n) from hlen)
  clear hd hlen
  go_enter Try.func27, Try.ntmps27
  go_wp2
  go_loop [1] (fun s => ∃ j : Nat, i ≤ j ∧ j ≤ 9223372036854775807 ∧ s = .int .i64 j ∧ Aside (dg M j = dg M i)) (fun s => n - (intOf s).toNat)
  case atStart => exact ⟨i, Nat.le_refl _, hi, rfl, rfl⟩
  case round =>
    obtain ⟨j, hj, hjm, rfl, hA⟩ := hrel
    by_cases hlt : j < n
    · have hjM : j < M.length := by rw [HL.out]; exact hlt
      obtain ⟨g, hg, hc⟩ := HD.out.cell j hjM
      obtain ⟨x, ex⟩ : ∃ x : Int, x = (M[j].toNat : Int) := ⟨_, rfl⟩
      rw [← ex] at hc
      have HX := (show Hid (x = (M[j].toNat : Int)) from ex)
      clear ex
      subst hg
      have hlt' : (j : Int) < (n : Int) := by omega
      by_cases h1 : x < 48
      · have he : dg M i = j := by rw [← hA.out]; exact dg_stop M j hjM (dig_lo HX.out h1)
        have HE := (show Hid (dg M i = j) from he)
        clear he hA
        go_wp2
        go_ret2
        refine ⟨?_, rfl⟩
        rw [HE.out]; first | rfl | (simp; done)
      · by_cases h2 : x ≤ 57
        · have he : dg M (j + 1) = dg M i := by rw [← hA.out]; exact dg_go M j hjM (dig_yes HX.out (by omega) h2)
          have HE := (show Hid (dg M (j + 1) = dg M i) from he)
          clear he hA
          go_wp2
          go_round
          case rel => exact ⟨j + 1, by omega, by omega, by go_num, HE.out⟩
          case measure => simp [intOf]; omega
        · have he : dg M i = j := by rw [← hA.out]; exact dg_stop M j hjM (dig_hi HX.out (by omega))
          have HE := (show Hid (dg M i = j) from he)
          clear he hA
          go_wp2
          go_ret2
          refine ⟨?_, rfl⟩
          rw [HE.out]; first | rfl | (simp; done)
    · have he : dg M i = j := by rw [← hA.out]; exact dg_end M j (by rw [HL.out]; omega)
      have HE := (show Hid (dg M i = j) from he)
      clear he hA
      go_wp2
      go_ret2
      refine ⟨?_, rfl⟩
      rw [HE.out]; first | rfl | (simp; done)
end Go.Proofs.Qxb6601169a.NumCalls
