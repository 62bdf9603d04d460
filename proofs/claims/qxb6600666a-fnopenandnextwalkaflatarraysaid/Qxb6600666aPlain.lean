/-
  Plain mathematics for the laws over token's decoder: lists of bytes and numbers; nothing of the program.
-/
namespace Go.Proofs.Qxb6600666a.Plain

def isSp (c : UInt8) : Bool := c == 32 || c == 9 || c == 10 || c == 13

/-- Where the white space that begins at p ends. -/
def sk (t : List UInt8) (p : Nat) : Nat := p + ((t.drop p).takeWhile isSp).length

theorem sk_end (t : List UInt8) (p : Nat) (h : t.length ≤ p) : sk t p = p := by
  unfold sk; rw [List.drop_eq_nil_of_le h]; rfl

theorem sk_stop (t : List UInt8) (p : Nat) (h : p < t.length) (hs : isSp t[p] = false) : sk t p = p := by
  unfold sk; rw [List.drop_eq_getElem_cons h, List.takeWhile_cons]; simp [hs]

theorem sk_go (t : List UInt8) (p : Nat) (h : p < t.length) (hs : isSp t[p] = true) : sk t (p + 1) = sk t p := by
  unfold sk; rw [List.drop_eq_getElem_cons h, List.takeWhile_cons]; simp [hs]; omega

theorem sk_le (t : List UInt8) (p : Nat) (h : p ≤ t.length) : sk t p ≤ t.length := by
  unfold sk
  have h1 : ((t.drop p).takeWhile isSp).length ≤ (t.drop p).length := (List.takeWhile_sublist _).length_le
  rw [List.length_drop] at h1; omega

theorem sk_ge (t : List UInt8) (p : Nat) : p ≤ sk t p := by unfold sk; omega

/-- A text that begins with A, then white space S, then a byte that is none: from the end of A the white space ends behind S. -/
theorem sk_over (A S R : List UInt8) (c : UInt8) (hS : ∀ x ∈ S, isSp x = true) (hc : isSp c = false) : sk (A ++ S ++ c :: R) A.length = A.length + S.length := by
  unfold sk
  rw [List.append_assoc, List.drop_left]
  have : (S ++ c :: R).takeWhile isSp = S := by
    rw [List.takeWhile_append_of_pos hS, List.takeWhile_cons, hc]; simp
  rw [this]

/-- Is byte c at place p? -/
def atB (t : List UInt8) (p : Nat) (c : UInt8) : Bool := t[p]? == some c

theorem atB_mid (A R : List UInt8) (c d : UInt8) : atB (A ++ c :: R) A.length d = (c == d) := by
  unfold atB; rw [List.getElem?_append_right (Nat.le_refl _)]; simp

/-- What 'next' answers: the place, whether another element follows, whether it was let. -/
def nx (t : List UInt8) (p : Nat) (c : UInt8) : Nat × Bool × Bool :=
  if atB t (sk t p) c then (sk t p + 1, false, true)
  else if atB t (sk t p) 44 then (sk t (sk t p + 1), true, true)
  else (sk t p, false, false)

/-- What 'open' answers at a depth that is let. -/
def op (t : List UInt8) (p : Nat) (c : UInt8) : Nat × Bool × Bool :=
  if atB t (sk t (p + 1)) c then (sk t (p + 1) + 1, false, true) else (sk t (p + 1), true, true)

theorem isSp_iff (c : UInt8) : isSp c = true ↔ ((c.toNat : Int) = 32 ∨ (c.toNat : Int) = 9 ∨ (c.toNat : Int) = 10 ∨ (c.toNat : Int) = 13) := by
  unfold isSp
  simp only [Bool.or_eq_true, beq_iff_eq, ← UInt8.toNat_inj]
  simp
  omega

theorem isSp_not {c : UInt8} (h0 : ¬ (c.toNat : Int) = 32) (h1 : ¬ (c.toNat : Int) = 9) (h2 : ¬ (c.toNat : Int) = 10) (h3 : ¬ (c.toNat : Int) = 13) : isSp c = false := by
  cases h : isSp c with
  | false => rfl
  | true => have := (isSp_iff c).1 h; omega

theorem atB_lt {t : List UInt8} {p : Nat} {c : UInt8} (h : p < t.length) : atB t p c = ((t[p].toNat : Int) == (c.toNat : Int)) := by
  unfold atB
  rw [List.getElem?_eq_getElem h, Bool.eq_iff_iff]
  simp only [beq_iff_eq, Option.some.injEq, ← UInt8.toNat_inj]
  omega

theorem atB_ge {t : List UInt8} {p : Nat} {c : UInt8} (h : t.length ≤ p) : atB t p c = false := by
  unfold atB
  rw [List.getElem?_eq_none h]; rfl

theorem atB_true {t : List UInt8} {p : Nat} {c : UInt8} (h : atB t p c = true) : p < t.length := by
  rcases Nat.lt_or_ge p t.length with h' | h'
  · exact h'
  · rw [atB_ge h'] at h; simp at h

theorem sk_bound (t : List UInt8) (p : Nat) (h : p ≤ t.length + 1) : sk t p ≤ t.length + 1 := by
  by_cases h' : p ≤ t.length
  · have := sk_le t p h'; omega
  · rw [sk_end t p (by omega)]; exact h

theorem nx_end {t : List UInt8} {p : Nat} {c : UInt8} (h : atB t (sk t p) c = true) : nx t p c = (sk t p + 1, false, true) := by unfold nx; rw [if_pos h]
theorem nx_comma {t : List UInt8} {p : Nat} {c : UInt8} (h : atB t (sk t p) c = false) (h2 : atB t (sk t p) 44 = true) : nx t p c = (sk t (sk t p + 1), true, true) := by
  unfold nx; rw [if_neg (by simp [h]), if_pos h2]
theorem nx_no {t : List UInt8} {p : Nat} {c : UInt8} (h : atB t (sk t p) c = false) (h2 : atB t (sk t p) 44 = false) : nx t p c = (sk t p, false, false) := by
  unfold nx; rw [if_neg (by simp [h]), if_neg (by simp [h2])]
theorem op_end {t : List UInt8} {p : Nat} {c : UInt8} (h : atB t (sk t (p + 1)) c = true) : op t p c = (sk t (p + 1) + 1, false, true) := by unfold op; rw [if_pos h]
theorem op_no {t : List UInt8} {p : Nat} {c : UInt8} (h : atB t (sk t (p + 1)) c = false) : op t p c = (sk t (p + 1), true, true) := by unfold op; rw [if_neg (by simp [h])]

end Go.Proofs.Qxb6600666a.Plain
