/-
  Plain mathematics for FnNumberTextMatchesAutomaton: numberText's reading and the automaton's run, on a list of bytes, and that they agree.
-/
namespace Go.Proofs.Qxb6601169a.Num

def isDig (c : UInt8) : Bool := 48 ≤ c.toNat && c.toNat ≤ 57

/-- Where the digits that begin at i end. -/
def dg (M : List UInt8) (i : Nat) : Nat := i + ((M.drop i).takeWhile isDig).length

theorem dg_end (M : List UInt8) (i : Nat) (h : M.length ≤ i) : dg M i = i := by unfold dg; rw [List.drop_eq_nil_of_le h]; rfl
theorem dg_stop (M : List UInt8) (i : Nat) (h : i < M.length) (hs : isDig M[i] = false) : dg M i = i := by
  unfold dg; rw [List.drop_eq_getElem_cons h, List.takeWhile_cons]; simp [hs]
theorem dg_go (M : List UInt8) (i : Nat) (h : i < M.length) (hs : isDig M[i] = true) : dg M (i + 1) = dg M i := by
  unfold dg; rw [List.drop_eq_getElem_cons h, List.takeWhile_cons]; simp [hs]; omega
theorem dg_ge (M : List UInt8) (i : Nat) : i ≤ dg M i := by unfold dg; omega
theorem dg_le (M : List UInt8) (i : Nat) (h : i ≤ M.length) : dg M i ≤ M.length := by
  unfold dg
  have h1 : ((M.drop i).takeWhile isDig).length ≤ (M.drop i).length := (List.takeWhile_sublist _).length_le
  rw [List.length_drop] at h1; omega

theorem dg_cases (M : List UInt8) (i : Nat) : (∃ h : i < M.length, isDig M[i] = true ∧ dg M i = dg M (i + 1) ∧ i < dg M i) ∨ (dg M i = i ∧ ∀ h : i < M.length, isDig M[i] = false) := by
  by_cases h : i < M.length
  · cases hs : isDig M[i] with
    | true => exact .inl ⟨h, hs, (dg_go M i h hs).symm, by have := dg_ge M (i + 1); rw [dg_go M i h hs] at this; omega⟩
    | false => exact .inr ⟨dg_stop M i h hs, fun _ => hs⟩
  · exact .inr ⟨dg_end M i (by omega), fun h' => absurd h' h⟩

/-- No digit stands where the digits have ended. -/
theorem dg_not : ∀ (k : Nat) (M : List UInt8) (i : Nat), M.length - i = k → ∀ h : dg M i < M.length, isDig M[dg M i] = false
  | 0, M, i, hk, h => by rw [dg_end M i (by omega)] at h; omega
  | k + 1, M, i, hk, h => by
    rcases dg_cases M i with ⟨hi, hs, he, _⟩ | ⟨he, hn⟩
    · have ih := dg_not k M (i + 1) (by omega) (by rw [← he]; exact h)
      simp only [he]; exact ih
    · have := hn (by omega)
      simp only [he]; exact this

/-! ### numberText, stage by stage -/
def st1 (M : List UInt8) (i : Nat) : Nat := if M[i]? = some 45 then i + 1 else i
def st2 (M : List UInt8) (j : Nat) : Option Nat := if M[j]? = some 48 then some (j + 1) else if j < dg M j then some (dg M j) else none
def st3 (M : List UInt8) (j : Nat) : Option Nat := if M[j]? = some 46 then (if j + 1 < dg M (j + 1) then some (dg M (j + 1)) else none) else some j
def sgn (M : List UInt8) (j : Nat) : Nat := if M[j]? = some 43 ∨ M[j]? = some 45 then j + 1 else j
def st4 (M : List UInt8) (j : Nat) : Option Nat := if M[j]? = some 101 ∨ M[j]? = some 69 then (if sgn M (j + 1) < dg M (sgn M (j + 1)) then some (dg M (sgn M (j + 1))) else none) else some j
def nt (M : List UInt8) (i : Nat) : Option Nat := (st2 M (st1 M i)).bind fun j => (st3 M j).bind (st4 M)

/-! ### The automaton -/
/-- Its step; none where there is none. -/
def stp (s : Nat) (c : UInt8) : Option Nat := match s with
  | 0 => if c = 45 then some 1 else if c = 48 then some 2 else if isDig c then some 3 else none
  | 1 => if c = 48 then some 2 else if isDig c then some 3 else none
  | 2 => if c = 46 then some 4 else if c = 101 ∨ c = 69 then some 6 else none
  | 3 => if isDig c then some 3 else if c = 46 then some 4 else if c = 101 ∨ c = 69 then some 6 else none
  | 4 => if isDig c then some 5 else none
  | 5 => if isDig c then some 5 else if c = 101 ∨ c = 69 then some 6 else none
  | 6 => if c = 43 ∨ c = 45 then some 7 else if isDig c then some 8 else none
  | 7 => if isDig c then some 8 else none
  | 8 => if isDig c then some 8 else none
  | _ => none

def acc (s : Nat) : Bool := s == 2 || s == 3 || s == 5 || s == 8

/-- How many bytes of l it reads from state s, and where it then stands. -/
def runL : List UInt8 → Nat → Nat × Nat
  | [], s => (0, s)
  | c :: l, s => match stp s c with
    | none => (0, s)
    | some t => ((runL l t).1 + 1, (runL l t).2)

/-- The place and the state in which it ends. -/
def fin (M : List UInt8) (j s : Nat) : Nat × Nat := (j + (runL (M.drop j) s).1, (runL (M.drop j) s).2)

theorem fin_end (M : List UInt8) (j s : Nat) (h : M.length ≤ j) : fin M j s = (j, s) := by unfold fin; rw [List.drop_eq_nil_of_le h]; rfl
theorem fin_stuck (M : List UInt8) (j s : Nat) (h : j < M.length) (hs : stp s M[j] = none) : fin M j s = (j, s) := by
  unfold fin; rw [List.drop_eq_getElem_cons h]; unfold runL; rw [hs]; rfl
theorem fin_step (M : List UInt8) (j s t : Nat) (h : j < M.length) (hs : stp s M[j] = some t) : fin M j s = fin M (j + 1) t := by
  unfold fin; rw [List.drop_eq_getElem_cons h]; conv => lhs; unfold runL
  rw [hs]; simp; omega

def nm (M : List UInt8) (i : Nat) : Option Nat := if acc (fin M i 0).2 then some (fin M i 0).1 else none

/-- A state that stays over digits. -/
theorem fin_digs (M : List UInt8) (s : Nat) (hs : ∀ c, isDig c = true → stp s c = some s) : ∀ (k j : Nat), M.length - j = k → fin M j s = fin M (dg M j) s
  | 0, j, hk => by rw [dg_end M j (by omega)]
  | k + 1, j, hk => by
    rcases dg_cases M j with ⟨hj, hd, he, _⟩ | ⟨he, _⟩
    · rw [fin_step M j s s hj (hs _ hd), he]; exact fin_digs M s hs k (j + 1) (by omega)
    · rw [he]

theorem stp6 (c : UInt8) : stp 6 c = if c = 43 ∨ c = 45 then some 7 else if isDig c then some 8 else none := rfl
theorem s3 (c : UInt8) (h : isDig c = true) : stp 3 c = some 3 := by simp [stp, h]
theorem s5 (c : UInt8) (h : isDig c = true) : stp 5 c = some 5 := by simp [stp, h]
theorem s8 (c : UInt8) (h : isDig c = true) : stp 8 c = some 8 := by simp [stp, h]

theorem get_of {M : List UInt8} {j : Nat} {c : UInt8} (h : M[j]? = some c) : ∃ hj : j < M.length, M[j] = c := List.getElem?_eq_some_iff.1 h
theorem not_get {M : List UInt8} {j : Nat} {c : UInt8} (h : ¬ M[j]? = some c) (hj : j < M.length) : ¬ M[j] = c := fun e => h (by rw [List.getElem?_eq_getElem hj, e])

/-- The answer, from a place and a state. -/
def ans (r : Nat × Nat) : Option Nat := if acc r.2 then some r.1 else none

/-- The exponent: from a place at which the mantissa has ended. -/
theorem law4 (M : List UInt8) (j s : Nat) (hs : s = 2 ∨ s = 3 ∨ s = 5) (hst : ∀ h : j < M.length, ¬ (M[j] = 101 ∨ M[j] = 69) → stp s M[j] = none) : ans (fin M j s) = st4 M j := by
  have hacc : acc s = true := by rcases hs with rfl | rfl | rfl <;> rfl
  unfold st4
  by_cases he : M[j]? = some 101 ∨ M[j]? = some 69
  · rw [if_pos he]
    obtain ⟨hj, hc⟩ : ∃ hj : j < M.length, M[j] = 101 ∨ M[j] = 69 := by
      rcases he with h | h
      · obtain ⟨hj, e⟩ := get_of h; exact ⟨hj, .inl e⟩
      · obtain ⟨hj, e⟩ := get_of h; exact ⟨hj, .inr e⟩
    have h6 : stp s M[j] = some 6 := by
      rcases hc with h | h <;> rw [h] <;> rcases hs with rfl | rfl | rfl <;> decide
    rw [fin_step M j s 6 hj h6]
    unfold sgn
    by_cases hp : M[j + 1]? = some 43 ∨ M[j + 1]? = some 45
    · rw [if_pos hp]
      obtain ⟨hj', hc'⟩ : ∃ hj : j + 1 < M.length, M[j + 1] = 43 ∨ M[j + 1] = 45 := by
        rcases hp with h | h
        · obtain ⟨hj, e⟩ := get_of h; exact ⟨hj, .inl e⟩
        · obtain ⟨hj, e⟩ := get_of h; exact ⟨hj, .inr e⟩
      have h7 : stp 6 M[j + 1] = some 7 := by unfold stp; rw [if_pos hc']; rfl
      rw [fin_step M (j + 1) 6 7 hj' h7]
      rcases dg_cases M (j + 1 + 1) with ⟨hq, hd, hg, hlt⟩ | ⟨hg, hn⟩
      · rw [if_pos hlt, fin_step M _ 7 8 hq (by simp [stp, hd]), fin_digs M 8 s8 _ _ rfl, ← hg]
        by_cases hend : dg M (j + 1 + 1) < M.length
        · rw [fin_stuck M _ 8 hend (by have := dg_not _ M (j + 1 + 1) rfl hend; simp [stp, this])]; rfl
        · rw [fin_end M _ 8 (by omega)]; rfl
      · rw [if_neg (by omega)]
        by_cases hq : j + 1 + 1 < M.length
        · rw [fin_stuck M _ 7 hq (by have := hn hq; simp [stp, this])]; rfl
        · rw [fin_end M _ 7 (by omega)]; rfl
    · rw [if_neg hp]
      rcases dg_cases M (j + 1) with ⟨hq, hd, hg, hlt⟩ | ⟨hg, hn⟩
      · have hne : ¬ (M[j + 1] = 43 ∨ M[j + 1] = 45) := by
          rintro (h | h)
          · exact hp (.inl (by rw [List.getElem?_eq_getElem hq, h]))
          · exact hp (.inr (by rw [List.getElem?_eq_getElem hq, h]))
        rw [if_pos hlt, fin_step M _ 6 8 hq (by rw [stp6, if_neg hne, if_pos hd]), fin_digs M 8 s8 _ _ rfl, ← hg]
        by_cases hend : dg M (j + 1) < M.length
        · rw [fin_stuck M _ 8 hend (by have := dg_not _ M (j + 1) rfl hend; simp [stp, this])]; rfl
        · rw [fin_end M _ 8 (by omega)]; rfl
      · rw [if_neg (by omega)]
        by_cases hq : j + 1 < M.length
        · have hne : ¬ (M[j + 1] = 43 ∨ M[j + 1] = 45) := by
            rintro (h | h)
            · exact hp (.inl (by rw [List.getElem?_eq_getElem hq, h]))
            · exact hp (.inr (by rw [List.getElem?_eq_getElem hq, h]))
          rw [fin_stuck M _ 6 hq (by have := hn hq; unfold stp; rw [if_neg hne, this]; rfl)]; rfl
        · rw [fin_end M _ 6 (by omega)]; rfl
  · rw [if_neg he]
    by_cases hj : j < M.length
    · have hne : ¬ (M[j] = 101 ∨ M[j] = 69) := by
        rintro (h | h)
        · exact he (.inl (by rw [List.getElem?_eq_getElem hj, h]))
        · exact he (.inr (by rw [List.getElem?_eq_getElem hj, h]))
      rw [fin_stuck M j s hj (hst hj hne)]; unfold ans; rw [if_pos hacc]
    · rw [fin_end M j s (by omega)]; unfold ans; rw [if_pos hacc]

/-- The fraction. -/
theorem law3 (M : List UInt8) (j s : Nat) (hs : s = 2 ∨ s = 3) (hnd : s = 3 → ∀ h : j < M.length, isDig M[j] = false) : ans (fin M j s) = (st3 M j).bind (st4 M) := by
  unfold st3
  by_cases hp : M[j]? = some 46
  · rw [if_pos hp]
    obtain ⟨hj, hc⟩ := get_of hp
    have h4 : stp s M[j] = some 4 := by rw [hc]; rcases hs with rfl | rfl <;> decide
    rw [fin_step M j s 4 hj h4]
    rcases dg_cases M (j + 1) with ⟨hq, hd, hg, hlt⟩ | ⟨hg, hn⟩
    · rw [if_pos hlt, fin_step M _ 4 5 hq (by simp [stp, hd]), fin_digs M 5 s5 _ _ rfl, ← hg]
      show ans _ = st4 M (dg M (j + 1))
      refine law4 M _ 5 (.inr (.inr rfl)) (fun h hne => ?_)
      have := dg_not _ M (j + 1) rfl h
      unfold stp; rw [this, if_neg hne]; rfl
    · rw [if_neg (by omega)]
      show ans _ = none
      by_cases hq : j + 1 < M.length
      · rw [fin_stuck M _ 4 hq (by have := hn hq; simp [stp, this])]; rfl
      · rw [fin_end M _ 4 (by omega)]; rfl
  · rw [if_neg hp]
    show ans _ = st4 M j
    refine law4 M j s (by rcases hs with h | h <;> simp [h]) (fun h hne => ?_)
    have h46 := not_get hp h
    rcases hs with rfl | rfl
    · unfold stp; rw [if_neg h46, if_neg hne]; rfl
    · have := hnd rfl h
      unfold stp; rw [this, if_neg h46, if_neg hne]; rfl

/-- The integer part. -/
theorem law2 (M : List UInt8) (j s : Nat) (hs : s = 0 ∨ s = 1) (hm : s = 0 → ¬ M[j]? = some 45) : ans (fin M j s) = (st2 M j).bind fun j => (st3 M j).bind (st4 M) := by
  unfold st2
  by_cases h0 : M[j]? = some 48
  · rw [if_pos h0]
    obtain ⟨hj, hc⟩ := get_of h0
    have h2 : stp s M[j] = some 2 := by rw [hc]; rcases hs with rfl | rfl <;> decide
    rw [fin_step M j s 2 hj h2]
    exact law3 M (j + 1) 2 (.inl rfl) (fun h => by cases h)
  · rw [if_neg h0]
    have hstuck : ∀ h : j < M.length, isDig M[j] = false → stp s M[j] = none := by
      intro h hd
      have h48 := not_get h0 h
      rcases hs with rfl | rfl
      · have h45 := not_get (hm rfl) h
        unfold stp; rw [if_neg h45, if_neg h48, hd]; rfl
      · unfold stp; rw [if_neg h48, hd]; rfl
    have hacc : acc s = false := by rcases hs with rfl | rfl <;> rfl
    rcases dg_cases M j with ⟨hj, hd, hg, hlt⟩ | ⟨hg, hn⟩
    · have h48 := not_get h0 hj
      have h3 : stp s M[j] = some 3 := by
        rcases hs with rfl | rfl
        · have h45 := not_get (hm rfl) hj
          unfold stp; rw [if_neg h45, if_neg h48, if_pos hd]; rfl
        · unfold stp; rw [if_neg h48, if_pos hd]; rfl
      rw [if_pos hlt, fin_step M j s 3 hj h3, fin_digs M 3 s3 _ _ rfl, ← hg]
      exact law3 M (dg M j) 3 (.inr rfl) (fun _ h => dg_not _ M j rfl h)
    · rw [if_neg (by omega)]
      show ans _ = none
      by_cases hj : j < M.length
      · rw [fin_stuck M j s hj (hstuck hj (hn hj))]; unfold ans; rw [hacc]; rfl
      · rw [fin_end M j s (by omega)]; unfold ans; rw [hacc]; rfl

/-- numberText accepts just what the automaton accepts, and ends where it ends. -/
theorem law (M : List UInt8) (i : Nat) : nm M i = nt M i := by
  show ans (fin M i 0) = _
  unfold nt st1
  by_cases h : M[i]? = some 45
  · rw [if_pos h]
    obtain ⟨hj, hc⟩ := get_of h
    rw [fin_step M i 0 1 hj (by rw [hc]; rfl)]
    exact law2 M (i + 1) 1 (.inr rfl) (fun h => by cases h)
  · rw [if_neg h]
    exact law2 M i 0 (.inl rfl) (fun _ => h)

end Go.Proofs.Qxb6601169a.Num
