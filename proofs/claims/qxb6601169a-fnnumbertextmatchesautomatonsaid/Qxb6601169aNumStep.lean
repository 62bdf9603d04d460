/-
  The walks of numStep and numAccepting.
-/
import Derived.Test.Qxb6601169aNumCalls
namespace Go.Proofs.Qxb6601169a.NumStep
open Go.RowKit Go.Proofs.Qxb6601169a.Num Go.Proofs.Qxb6601169a.NumCalls

theorem ret_int {k : IntKind} {a b : Int} (h : a = b) : Ending.returned (.int k a) = .returned (.int k b) := by rw [h]

/-- The step as numStep says it: -1 where there is none. -/
def stI (s : Nat) (c : UInt8) : Int := match stp s c with | none => -1 | some t => (t : Int)

theorem ne_of {c : UInt8} {k : Nat} (hk : k < 256) (h : ¬ c = UInt8.ofNat k) : ((c.toNat : Int) == (k : Int)) = false := by
  rw [beq_eq_false_iff_ne]
  intro e
  apply h
  apply UInt8.toNat_inj.1
  simp
  omega

set_option maxHeartbeats 1000000 in
theorem step0 (c : UInt8) (w : World) : Calls Try.prog 21 #[.int .i64 0, .int .u8 c.toNat] w fun e w' => e = .returned (.int .i64 (stI 0 c)) ∧ w = w' := by
  by_cases h43 : c = 43
  · subst h43
    go_enter Try.func21, Try.ntmps21
    go_wp2
    go_ret
    exact ⟨rfl, rfl⟩
  by_cases h45 : c = 45
  · subst h45
    go_enter Try.func21, Try.ntmps21
    go_wp2
    go_ret
    exact ⟨rfl, rfl⟩
  by_cases h46 : c = 46
  · subst h46
    go_enter Try.func21, Try.ntmps21
    go_wp2
    go_ret
    exact ⟨rfl, rfl⟩
  by_cases h48 : c = 48
  · subst h48
    go_enter Try.func21, Try.ntmps21
    go_wp2
    go_ret
    exact ⟨rfl, rfl⟩
  by_cases h69 : c = 69
  · subst h69
    go_enter Try.func21, Try.ntmps21
    go_wp2
    go_ret
    exact ⟨rfl, rfl⟩
  by_cases h101 : c = 101
  · subst h101
    go_enter Try.func21, Try.ntmps21
    go_wp2
    go_ret
    exact ⟨rfl, rfl⟩
  obtain ⟨x, ex⟩ : ∃ x : Int, x = (c.toNat : Int) := ⟨_, rfl⟩
  have g43 : ((c.toNat : Int) == 43) = false := ne_of (k := 43) (by omega) h43
  have g45 : ((c.toNat : Int) == 45) = false := ne_of (k := 45) (by omega) h45
  have g46 : ((c.toNat : Int) == 46) = false := ne_of (k := 46) (by omega) h46
  have g48 : ((c.toNat : Int) == 48) = false := ne_of (k := 48) (by omega) h48
  have g69 : ((c.toNat : Int) == 69) = false := ne_of (k := 69) (by omega) h69
  have g101 : ((c.toNat : Int) == 101) = false := ne_of (k := 101) (by omega) h101
  rw [← ex] at g43 g45 g46 g48 g69 g101
  rw [← ex]
  have H43 := (show Hid (¬ c = 43) from h43)
  have H45 := (show Hid (¬ c = 45) from h45)
  have H46 := (show Hid (¬ c = 46) from h46)
  have H48 := (show Hid (¬ c = 48) from h48)
  have H69 := (show Hid (¬ c = 69) from h69)
  have H101 := (show Hid (¬ c = 101) from h101)
  have HX := (show Hid (x = (c.toNat : Int)) from ex)
  have hx0 : 0 ≤ x := by omega
  clear ex h43 h45 h46 h48 h69 h101
  by_cases h1 : x < 48
  · go_enter Try.func21, Try.ntmps21
    go_wp2
    go_ret
    have hd := dig_lo HX.out h1
    exact ⟨ret_int (by simp [stI, stp, hd, H45.out, H48.out]), rfl⟩
  · by_cases h2 : x ≤ 57
    · go_enter Try.func21, Try.ntmps21
      go_wp2
      go_ret
      have hd := dig_yes HX.out (by omega) h2
      exact ⟨ret_int (by simp [stI, stp, hd, H45.out, H48.out]), rfl⟩
    · go_enter Try.func21, Try.ntmps21
      go_wp2
      go_ret
      have hd := dig_hi HX.out (by omega)
      exact ⟨ret_int (by simp [stI, stp, hd, H45.out, H48.out]), rfl⟩

set_option maxHeartbeats 1000000 in
theorem step1 (c : UInt8) (w : World) : Calls Try.prog 21 #[.int .i64 1, .int .u8 c.toNat] w fun e w' => e = .returned (.int .i64 (stI 1 c)) ∧ w = w' := by
  by_cases h43 : c = 43
  · subst h43
    go_enter Try.func21, Try.ntmps21
    go_wp2
    go_ret
    exact ⟨rfl, rfl⟩
  by_cases h45 : c = 45
  · subst h45
    go_enter Try.func21, Try.ntmps21
    go_wp2
    go_ret
    exact ⟨rfl, rfl⟩
  by_cases h46 : c = 46
  · subst h46
    go_enter Try.func21, Try.ntmps21
    go_wp2
    go_ret
    exact ⟨rfl, rfl⟩
  by_cases h48 : c = 48
  · subst h48
    go_enter Try.func21, Try.ntmps21
    go_wp2
    go_ret
    exact ⟨rfl, rfl⟩
  by_cases h69 : c = 69
  · subst h69
    go_enter Try.func21, Try.ntmps21
    go_wp2
    go_ret
    exact ⟨rfl, rfl⟩
  by_cases h101 : c = 101
  · subst h101
    go_enter Try.func21, Try.ntmps21
    go_wp2
    go_ret
    exact ⟨rfl, rfl⟩
  obtain ⟨x, ex⟩ : ∃ x : Int, x = (c.toNat : Int) := ⟨_, rfl⟩
  have g43 : ((c.toNat : Int) == 43) = false := ne_of (k := 43) (by omega) h43
  have g45 : ((c.toNat : Int) == 45) = false := ne_of (k := 45) (by omega) h45
  have g46 : ((c.toNat : Int) == 46) = false := ne_of (k := 46) (by omega) h46
  have g48 : ((c.toNat : Int) == 48) = false := ne_of (k := 48) (by omega) h48
  have g69 : ((c.toNat : Int) == 69) = false := ne_of (k := 69) (by omega) h69
  have g101 : ((c.toNat : Int) == 101) = false := ne_of (k := 101) (by omega) h101
  rw [← ex] at g43 g45 g46 g48 g69 g101
  rw [← ex]
  have H43 := (show Hid (¬ c = 43) from h43)
  have H45 := (show Hid (¬ c = 45) from h45)
  have H46 := (show Hid (¬ c = 46) from h46)
  have H48 := (show Hid (¬ c = 48) from h48)
  have H69 := (show Hid (¬ c = 69) from h69)
  have H101 := (show Hid (¬ c = 101) from h101)
  have HX := (show Hid (x = (c.toNat : Int)) from ex)
  have hx0 : 0 ≤ x := by omega
  clear ex h43 h45 h46 h48 h69 h101
  by_cases h1 : x < 48
  · go_enter Try.func21, Try.ntmps21
    go_wp2
    go_ret
    have hd := dig_lo HX.out h1
    exact ⟨ret_int (by simp [stI, stp, hd, H48.out]), rfl⟩
  · by_cases h2 : x ≤ 57
    · go_enter Try.func21, Try.ntmps21
      go_wp2
      go_ret
      have hd := dig_yes HX.out (by omega) h2
      exact ⟨ret_int (by simp [stI, stp, hd, H48.out]), rfl⟩
    · go_enter Try.func21, Try.ntmps21
      go_wp2
      go_ret
      have hd := dig_hi HX.out (by omega)
      exact ⟨ret_int (by simp [stI, stp, hd, H48.out]), rfl⟩

set_option maxHeartbeats 1000000 in
theorem step2 (c : UInt8) (w : World) : Calls Try.prog 21 #[.int .i64 2, .int .u8 c.toNat] w fun e w' => e = .returned (.int .i64 (stI 2 c)) ∧ w = w' := by
  by_cases h43 : c = 43
  · subst h43
    go_enter Try.func21, Try.ntmps21
    go_wp2
    go_ret
    exact ⟨rfl, rfl⟩
  by_cases h45 : c = 45
  · subst h45
    go_enter Try.func21, Try.ntmps21
    go_wp2
    go_ret
    exact ⟨rfl, rfl⟩
  by_cases h46 : c = 46
  · subst h46
    go_enter Try.func21, Try.ntmps21
    go_wp2
    go_ret
    exact ⟨rfl, rfl⟩
  by_cases h48 : c = 48
  · subst h48
    go_enter Try.func21, Try.ntmps21
    go_wp2
    go_ret
    exact ⟨rfl, rfl⟩
  by_cases h69 : c = 69
  · subst h69
    go_enter Try.func21, Try.ntmps21
    go_wp2
    go_ret
    exact ⟨rfl, rfl⟩
  by_cases h101 : c = 101
  · subst h101
    go_enter Try.func21, Try.ntmps21
    go_wp2
    go_ret
    exact ⟨rfl, rfl⟩
  obtain ⟨x, ex⟩ : ∃ x : Int, x = (c.toNat : Int) := ⟨_, rfl⟩
  have g43 : ((c.toNat : Int) == 43) = false := ne_of (k := 43) (by omega) h43
  have g45 : ((c.toNat : Int) == 45) = false := ne_of (k := 45) (by omega) h45
  have g46 : ((c.toNat : Int) == 46) = false := ne_of (k := 46) (by omega) h46
  have g48 : ((c.toNat : Int) == 48) = false := ne_of (k := 48) (by omega) h48
  have g69 : ((c.toNat : Int) == 69) = false := ne_of (k := 69) (by omega) h69
  have g101 : ((c.toNat : Int) == 101) = false := ne_of (k := 101) (by omega) h101
  rw [← ex] at g43 g45 g46 g48 g69 g101
  rw [← ex]
  have H43 := (show Hid (¬ c = 43) from h43)
  have H45 := (show Hid (¬ c = 45) from h45)
  have H46 := (show Hid (¬ c = 46) from h46)
  have H48 := (show Hid (¬ c = 48) from h48)
  have H69 := (show Hid (¬ c = 69) from h69)
  have H101 := (show Hid (¬ c = 101) from h101)
  have HX := (show Hid (x = (c.toNat : Int)) from ex)
  have hx0 : 0 ≤ x := by omega
  clear ex h43 h45 h46 h48 h69 h101
  by_cases h1 : x < 48
  · go_enter Try.func21, Try.ntmps21
    go_wp2
    go_ret
    exact ⟨ret_int (by simp [stI, stp, H46.out, H101.out, H69.out]), rfl⟩
  · by_cases h2 : x ≤ 57
    · go_enter Try.func21, Try.ntmps21
      go_wp2
      go_ret
      exact ⟨ret_int (by simp [stI, stp, H46.out, H101.out, H69.out]), rfl⟩
    · go_enter Try.func21, Try.ntmps21
      go_wp2
      go_ret
      exact ⟨ret_int (by simp [stI, stp, H46.out, H101.out, H69.out]), rfl⟩

set_option maxHeartbeats 1000000 in
theorem step3 (c : UInt8) (w : World) : Calls Try.prog 21 #[.int .i64 3, .int .u8 c.toNat] w fun e w' => e = .returned (.int .i64 (stI 3 c)) ∧ w = w' := by
  by_cases h43 : c = 43
  · subst h43
    go_enter Try.func21, Try.ntmps21
    go_wp2
    go_ret
    exact ⟨rfl, rfl⟩
  by_cases h45 : c = 45
  · subst h45
    go_enter Try.func21, Try.ntmps21
    go_wp2
    go_ret
    exact ⟨rfl, rfl⟩
  by_cases h46 : c = 46
  · subst h46
    go_enter Try.func21, Try.ntmps21
    go_wp2
    go_ret
    exact ⟨rfl, rfl⟩
  by_cases h48 : c = 48
  · subst h48
    go_enter Try.func21, Try.ntmps21
    go_wp2
    go_ret
    exact ⟨rfl, rfl⟩
  by_cases h69 : c = 69
  · subst h69
    go_enter Try.func21, Try.ntmps21
    go_wp2
    go_ret
    exact ⟨rfl, rfl⟩
  by_cases h101 : c = 101
  · subst h101
    go_enter Try.func21, Try.ntmps21
    go_wp2
    go_ret
    exact ⟨rfl, rfl⟩
  obtain ⟨x, ex⟩ : ∃ x : Int, x = (c.toNat : Int) := ⟨_, rfl⟩
  have g43 : ((c.toNat : Int) == 43) = false := ne_of (k := 43) (by omega) h43
  have g45 : ((c.toNat : Int) == 45) = false := ne_of (k := 45) (by omega) h45
  have g46 : ((c.toNat : Int) == 46) = false := ne_of (k := 46) (by omega) h46
  have g48 : ((c.toNat : Int) == 48) = false := ne_of (k := 48) (by omega) h48
  have g69 : ((c.toNat : Int) == 69) = false := ne_of (k := 69) (by omega) h69
  have g101 : ((c.toNat : Int) == 101) = false := ne_of (k := 101) (by omega) h101
  rw [← ex] at g43 g45 g46 g48 g69 g101
  rw [← ex]
  have H43 := (show Hid (¬ c = 43) from h43)
  have H45 := (show Hid (¬ c = 45) from h45)
  have H46 := (show Hid (¬ c = 46) from h46)
  have H48 := (show Hid (¬ c = 48) from h48)
  have H69 := (show Hid (¬ c = 69) from h69)
  have H101 := (show Hid (¬ c = 101) from h101)
  have HX := (show Hid (x = (c.toNat : Int)) from ex)
  have hx0 : 0 ≤ x := by omega
  clear ex h43 h45 h46 h48 h69 h101
  by_cases h1 : x < 48
  · go_enter Try.func21, Try.ntmps21
    go_wp2
    go_ret
    have hd := dig_lo HX.out h1
    exact ⟨ret_int (by simp [stI, stp, hd, H46.out, H101.out, H69.out]), rfl⟩
  · by_cases h2 : x ≤ 57
    · go_enter Try.func21, Try.ntmps21
      go_wp2
      go_ret
      have hd := dig_yes HX.out (by omega) h2
      exact ⟨ret_int (by simp [stI, stp, hd]), rfl⟩
    · go_enter Try.func21, Try.ntmps21
      go_wp2
      go_ret
      have hd := dig_hi HX.out (by omega)
      exact ⟨ret_int (by simp [stI, stp, hd, H46.out, H101.out, H69.out]), rfl⟩

set_option maxHeartbeats 1000000 in
theorem step4 (c : UInt8) (w : World) : Calls Try.prog 21 #[.int .i64 4, .int .u8 c.toNat] w fun e w' => e = .returned (.int .i64 (stI 4 c)) ∧ w = w' := by
  by_cases h43 : c = 43
  · subst h43
    go_enter Try.func21, Try.ntmps21
    go_wp2
    go_ret
    exact ⟨rfl, rfl⟩
  by_cases h45 : c = 45
  · subst h45
    go_enter Try.func21, Try.ntmps21
    go_wp2
    go_ret
    exact ⟨rfl, rfl⟩
  by_cases h46 : c = 46
  · subst h46
    go_enter Try.func21, Try.ntmps21
    go_wp2
    go_ret
    exact ⟨rfl, rfl⟩
  by_cases h48 : c = 48
  · subst h48
    go_enter Try.func21, Try.ntmps21
    go_wp2
    go_ret
    exact ⟨rfl, rfl⟩
  by_cases h69 : c = 69
  · subst h69
    go_enter Try.func21, Try.ntmps21
    go_wp2
    go_ret
    exact ⟨rfl, rfl⟩
  by_cases h101 : c = 101
  · subst h101
    go_enter Try.func21, Try.ntmps21
    go_wp2
    go_ret
    exact ⟨rfl, rfl⟩
  obtain ⟨x, ex⟩ : ∃ x : Int, x = (c.toNat : Int) := ⟨_, rfl⟩
  have g43 : ((c.toNat : Int) == 43) = false := ne_of (k := 43) (by omega) h43
  have g45 : ((c.toNat : Int) == 45) = false := ne_of (k := 45) (by omega) h45
  have g46 : ((c.toNat : Int) == 46) = false := ne_of (k := 46) (by omega) h46
  have g48 : ((c.toNat : Int) == 48) = false := ne_of (k := 48) (by omega) h48
  have g69 : ((c.toNat : Int) == 69) = false := ne_of (k := 69) (by omega) h69
  have g101 : ((c.toNat : Int) == 101) = false := ne_of (k := 101) (by omega) h101
  rw [← ex] at g43 g45 g46 g48 g69 g101
  rw [← ex]
  have H43 := (show Hid (¬ c = 43) from h43)
  have H45 := (show Hid (¬ c = 45) from h45)
  have H46 := (show Hid (¬ c = 46) from h46)
  have H48 := (show Hid (¬ c = 48) from h48)
  have H69 := (show Hid (¬ c = 69) from h69)
  have H101 := (show Hid (¬ c = 101) from h101)
  have HX := (show Hid (x = (c.toNat : Int)) from ex)
  have hx0 : 0 ≤ x := by omega
  clear ex h43 h45 h46 h48 h69 h101
  by_cases h1 : x < 48
  · go_enter Try.func21, Try.ntmps21
    go_wp2
    go_ret
    have hd := dig_lo HX.out h1
    exact ⟨ret_int (by simp [stI, stp, hd]), rfl⟩
  · by_cases h2 : x ≤ 57
    · go_enter Try.func21, Try.ntmps21
      go_wp2
      go_ret
      have hd := dig_yes HX.out (by omega) h2
      exact ⟨ret_int (by simp [stI, stp, hd]), rfl⟩
    · go_enter Try.func21, Try.ntmps21
      go_wp2
      go_ret
      have hd := dig_hi HX.out (by omega)
      exact ⟨ret_int (by simp [stI, stp, hd]), rfl⟩

set_option maxHeartbeats 1000000 in
theorem step5 (c : UInt8) (w : World) : Calls Try.prog 21 #[.int .i64 5, .int .u8 c.toNat] w fun e w' => e = .returned (.int .i64 (stI 5 c)) ∧ w = w' := by
  by_cases h43 : c = 43
  · subst h43
    go_enter Try.func21, Try.ntmps21
    go_wp2
    go_ret
    exact ⟨rfl, rfl⟩
  by_cases h45 : c = 45
  · subst h45
    go_enter Try.func21, Try.ntmps21
    go_wp2
    go_ret
    exact ⟨rfl, rfl⟩
  by_cases h46 : c = 46
  · subst h46
    go_enter Try.func21, Try.ntmps21
    go_wp2
    go_ret
    exact ⟨rfl, rfl⟩
  by_cases h48 : c = 48
  · subst h48
    go_enter Try.func21, Try.ntmps21
    go_wp2
    go_ret
    exact ⟨rfl, rfl⟩
  by_cases h69 : c = 69
  · subst h69
    go_enter Try.func21, Try.ntmps21
    go_wp2
    go_ret
    exact ⟨rfl, rfl⟩
  by_cases h101 : c = 101
  · subst h101
    go_enter Try.func21, Try.ntmps21
    go_wp2
    go_ret
    exact ⟨rfl, rfl⟩
  obtain ⟨x, ex⟩ : ∃ x : Int, x = (c.toNat : Int) := ⟨_, rfl⟩
  have g43 : ((c.toNat : Int) == 43) = false := ne_of (k := 43) (by omega) h43
  have g45 : ((c.toNat : Int) == 45) = false := ne_of (k := 45) (by omega) h45
  have g46 : ((c.toNat : Int) == 46) = false := ne_of (k := 46) (by omega) h46
  have g48 : ((c.toNat : Int) == 48) = false := ne_of (k := 48) (by omega) h48
  have g69 : ((c.toNat : Int) == 69) = false := ne_of (k := 69) (by omega) h69
  have g101 : ((c.toNat : Int) == 101) = false := ne_of (k := 101) (by omega) h101
  rw [← ex] at g43 g45 g46 g48 g69 g101
  rw [← ex]
  have H43 := (show Hid (¬ c = 43) from h43)
  have H45 := (show Hid (¬ c = 45) from h45)
  have H46 := (show Hid (¬ c = 46) from h46)
  have H48 := (show Hid (¬ c = 48) from h48)
  have H69 := (show Hid (¬ c = 69) from h69)
  have H101 := (show Hid (¬ c = 101) from h101)
  have HX := (show Hid (x = (c.toNat : Int)) from ex)
  have hx0 : 0 ≤ x := by omega
  clear ex h43 h45 h46 h48 h69 h101
  by_cases h1 : x < 48
  · go_enter Try.func21, Try.ntmps21
    go_wp2
    go_ret
    have hd := dig_lo HX.out h1
    exact ⟨ret_int (by simp [stI, stp, hd, H101.out, H69.out]), rfl⟩
  · by_cases h2 : x ≤ 57
    · go_enter Try.func21, Try.ntmps21
      go_wp2
      go_ret
      have hd := dig_yes HX.out (by omega) h2
      exact ⟨ret_int (by simp [stI, stp, hd]), rfl⟩
    · go_enter Try.func21, Try.ntmps21
      go_wp2
      go_ret
      have hd := dig_hi HX.out (by omega)
      exact ⟨ret_int (by simp [stI, stp, hd, H101.out, H69.out]), rfl⟩

set_option maxHeartbeats 1000000 in
theorem step6 (c : UInt8) (w : World) : Calls Try.prog 21 #[.int .i64 6, .int .u8 c.toNat] w fun e w' => e = .returned (.int .i64 (stI 6 c)) ∧ w = w' := by
  by_cases h43 : c = 43
  · subst h43
    go_enter Try.func21, Try.ntmps21
    go_wp2
    go_ret
    exact ⟨rfl, rfl⟩
  by_cases h45 : c = 45
  · subst h45
    go_enter Try.func21, Try.ntmps21
    go_wp2
    go_ret
    exact ⟨rfl, rfl⟩
  by_cases h46 : c = 46
  · subst h46
    go_enter Try.func21, Try.ntmps21
    go_wp2
    go_ret
    exact ⟨rfl, rfl⟩
  by_cases h48 : c = 48
  · subst h48
    go_enter Try.func21, Try.ntmps21
    go_wp2
    go_ret
    exact ⟨rfl, rfl⟩
  by_cases h69 : c = 69
  · subst h69
    go_enter Try.func21, Try.ntmps21
    go_wp2
    go_ret
    exact ⟨rfl, rfl⟩
  by_cases h101 : c = 101
  · subst h101
    go_enter Try.func21, Try.ntmps21
    go_wp2
    go_ret
    exact ⟨rfl, rfl⟩
  obtain ⟨x, ex⟩ : ∃ x : Int, x = (c.toNat : Int) := ⟨_, rfl⟩
  have g43 : ((c.toNat : Int) == 43) = false := ne_of (k := 43) (by omega) h43
  have g45 : ((c.toNat : Int) == 45) = false := ne_of (k := 45) (by omega) h45
  have g46 : ((c.toNat : Int) == 46) = false := ne_of (k := 46) (by omega) h46
  have g48 : ((c.toNat : Int) == 48) = false := ne_of (k := 48) (by omega) h48
  have g69 : ((c.toNat : Int) == 69) = false := ne_of (k := 69) (by omega) h69
  have g101 : ((c.toNat : Int) == 101) = false := ne_of (k := 101) (by omega) h101
  rw [← ex] at g43 g45 g46 g48 g69 g101
  rw [← ex]
  have H43 := (show Hid (¬ c = 43) from h43)
  have H45 := (show Hid (¬ c = 45) from h45)
  have H46 := (show Hid (¬ c = 46) from h46)
  have H48 := (show Hid (¬ c = 48) from h48)
  have H69 := (show Hid (¬ c = 69) from h69)
  have H101 := (show Hid (¬ c = 101) from h101)
  have HX := (show Hid (x = (c.toNat : Int)) from ex)
  have hx0 : 0 ≤ x := by omega
  clear ex h43 h45 h46 h48 h69 h101
  by_cases h1 : x < 48
  · go_enter Try.func21, Try.ntmps21
    go_wp2
    go_ret
    have hd := dig_lo HX.out h1
    exact ⟨ret_int (by simp [stI, stp, hd, H43.out, H45.out]), rfl⟩
  · by_cases h2 : x ≤ 57
    · go_enter Try.func21, Try.ntmps21
      go_wp2
      go_ret
      have hd := dig_yes HX.out (by omega) h2
      exact ⟨ret_int (by simp [stI, stp, hd, H43.out, H45.out]), rfl⟩
    · go_enter Try.func21, Try.ntmps21
      go_wp2
      go_ret
      have hd := dig_hi HX.out (by omega)
      exact ⟨ret_int (by simp [stI, stp, hd, H43.out, H45.out]), rfl⟩

set_option maxHeartbeats 1000000 in
theorem step7 (c : UInt8) (w : World) : Calls Try.prog 21 #[.int .i64 7, .int .u8 c.toNat] w fun e w' => e = .returned (.int .i64 (stI 7 c)) ∧ w = w' := by
  by_cases h43 : c = 43
  · subst h43
    go_enter Try.func21, Try.ntmps21
    go_wp2
    go_ret
    exact ⟨rfl, rfl⟩
  by_cases h45 : c = 45
  · subst h45
    go_enter Try.func21, Try.ntmps21
    go_wp2
    go_ret
    exact ⟨rfl, rfl⟩
  by_cases h46 : c = 46
  · subst h46
    go_enter Try.func21, Try.ntmps21
    go_wp2
    go_ret
    exact ⟨rfl, rfl⟩
  by_cases h48 : c = 48
  · subst h48
    go_enter Try.func21, Try.ntmps21
    go_wp2
    go_ret
    exact ⟨rfl, rfl⟩
  by_cases h69 : c = 69
  · subst h69
    go_enter Try.func21, Try.ntmps21
    go_wp2
    go_ret
    exact ⟨rfl, rfl⟩
  by_cases h101 : c = 101
  · subst h101
    go_enter Try.func21, Try.ntmps21
    go_wp2
    go_ret
    exact ⟨rfl, rfl⟩
  obtain ⟨x, ex⟩ : ∃ x : Int, x = (c.toNat : Int) := ⟨_, rfl⟩
  have g43 : ((c.toNat : Int) == 43) = false := ne_of (k := 43) (by omega) h43
  have g45 : ((c.toNat : Int) == 45) = false := ne_of (k := 45) (by omega) h45
  have g46 : ((c.toNat : Int) == 46) = false := ne_of (k := 46) (by omega) h46
  have g48 : ((c.toNat : Int) == 48) = false := ne_of (k := 48) (by omega) h48
  have g69 : ((c.toNat : Int) == 69) = false := ne_of (k := 69) (by omega) h69
  have g101 : ((c.toNat : Int) == 101) = false := ne_of (k := 101) (by omega) h101
  rw [← ex] at g43 g45 g46 g48 g69 g101
  rw [← ex]
  have H43 := (show Hid (¬ c = 43) from h43)
  have H45 := (show Hid (¬ c = 45) from h45)
  have H46 := (show Hid (¬ c = 46) from h46)
  have H48 := (show Hid (¬ c = 48) from h48)
  have H69 := (show Hid (¬ c = 69) from h69)
  have H101 := (show Hid (¬ c = 101) from h101)
  have HX := (show Hid (x = (c.toNat : Int)) from ex)
  have hx0 : 0 ≤ x := by omega
  clear ex h43 h45 h46 h48 h69 h101
  by_cases h1 : x < 48
  · go_enter Try.func21, Try.ntmps21
    go_wp2
    go_ret
    have hd := dig_lo HX.out h1
    exact ⟨ret_int (by simp [stI, stp, hd]), rfl⟩
  · by_cases h2 : x ≤ 57
    · go_enter Try.func21, Try.ntmps21
      go_wp2
      go_ret
      have hd := dig_yes HX.out (by omega) h2
      exact ⟨ret_int (by simp [stI, stp, hd]), rfl⟩
    · go_enter Try.func21, Try.ntmps21
      go_wp2
      go_ret
      have hd := dig_hi HX.out (by omega)
      exact ⟨ret_int (by simp [stI, stp, hd]), rfl⟩

set_option maxHeartbeats 1000000 in
theorem step8 (c : UInt8) (w : World) : Calls Try.prog 21 #[.int .i64 8, .int .u8 c.toNat] w fun e w' => e = .returned (.int .i64 (stI 8 c)) ∧ w = w' := by
  by_cases h43 : c = 43
  · subst h43
    go_enter Try.func21, Try.ntmps21
    go_wp2
    go_ret
    exact ⟨rfl, rfl⟩
  by_cases h45 : c = 45
  · subst h45
    go_enter Try.func21, Try.ntmps21
    go_wp2
    go_ret
    exact ⟨rfl, rfl⟩
  by_cases h46 : c = 46
  · subst h46
    go_enter Try.func21, Try.ntmps21
    go_wp2
    go_ret
    exact ⟨rfl, rfl⟩
  by_cases h48 : c = 48
  · subst h48
    go_enter Try.func21, Try.ntmps21
    go_wp2
    go_ret
    exact ⟨rfl, rfl⟩
  by_cases h69 : c = 69
  · subst h69
    go_enter Try.func21, Try.ntmps21
    go_wp2
    go_ret
    exact ⟨rfl, rfl⟩
  by_cases h101 : c = 101
  · subst h101
    go_enter Try.func21, Try.ntmps21
    go_wp2
    go_ret
    exact ⟨rfl, rfl⟩
  obtain ⟨x, ex⟩ : ∃ x : Int, x = (c.toNat : Int) := ⟨_, rfl⟩
  have g43 : ((c.toNat : Int) == 43) = false := ne_of (k := 43) (by omega) h43
  have g45 : ((c.toNat : Int) == 45) = false := ne_of (k := 45) (by omega) h45
  have g46 : ((c.toNat : Int) == 46) = false := ne_of (k := 46) (by omega) h46
  have g48 : ((c.toNat : Int) == 48) = false := ne_of (k := 48) (by omega) h48
  have g69 : ((c.toNat : Int) == 69) = false := ne_of (k := 69) (by omega) h69
  have g101 : ((c.toNat : Int) == 101) = false := ne_of (k := 101) (by omega) h101
  rw [← ex] at g43 g45 g46 g48 g69 g101
  rw [← ex]
  have H43 := (show Hid (¬ c = 43) from h43)
  have H45 := (show Hid (¬ c = 45) from h45)
  have H46 := (show Hid (¬ c = 46) from h46)
  have H48 := (show Hid (¬ c = 48) from h48)
  have H69 := (show Hid (¬ c = 69) from h69)
  have H101 := (show Hid (¬ c = 101) from h101)
  have HX := (show Hid (x = (c.toNat : Int)) from ex)
  have hx0 : 0 ≤ x := by omega
  clear ex h43 h45 h46 h48 h69 h101
  by_cases h1 : x < 48
  · go_enter Try.func21, Try.ntmps21
    go_wp2
    go_ret
    have hd := dig_lo HX.out h1
    exact ⟨ret_int (by simp [stI, stp, hd]), rfl⟩
  · by_cases h2 : x ≤ 57
    · go_enter Try.func21, Try.ntmps21
      go_wp2
      go_ret
      have hd := dig_yes HX.out (by omega) h2
      exact ⟨ret_int (by simp [stI, stp, hd]), rfl⟩
    · go_enter Try.func21, Try.ntmps21
      go_wp2
      go_ret
      have hd := dig_hi HX.out (by omega)
      exact ⟨ret_int (by simp [stI, stp, hd]), rfl⟩

theorem step_any (s : Nat) (c : UInt8) (w : World) (hs : s ≤ 8) : Calls Try.prog 21 #[.int .i64 s, .int .u8 c.toNat] w fun e w' => e = .returned (.int .i64 (stI s c)) ∧ w = w' := by
  match s, hs with
  | 0, _ => exact step0 c w
  | 1, _ => exact step1 c w
  | 2, _ => exact step2 c w
  | 3, _ => exact step3 c w
  | 4, _ => exact step4 c w
  | 5, _ => exact step5 c w
  | 6, _ => exact step6 c w
  | 7, _ => exact step7 c w
  | 8, _ => exact step8 c w
  | _ + 9, h => exact absurd h (by omega)

theorem acc_any (s : Nat) (w : World) (hs : s ≤ 8) : Calls Try.prog 22 #[.int .i64 s] w fun e w' => e = .returned (.bool (acc s)) ∧ w = w' := by
  rcases (show s = 0 ∨ s = 1 ∨ s = 2 ∨ s = 3 ∨ s = 4 ∨ s = 5 ∨ s = 6 ∨ s = 7 ∨ s = 8 by omega) with rfl | rfl | rfl | rfl | rfl | rfl | rfl | rfl | rfl
  all_goals
    go_enter Try.func22, Try.ntmps22
    go_wp2
    go_ret
    exact ⟨rfl, rfl⟩

theorem stp_le (s : Nat) (c : UInt8) (t : Nat) (h : stp s c = some t) : t ≤ 8 := by
  unfold stp at h
  split at h <;> (repeat' split at h) <;> simp_all <;> omega

end Go.Proofs.Qxb6601169a.NumStep
