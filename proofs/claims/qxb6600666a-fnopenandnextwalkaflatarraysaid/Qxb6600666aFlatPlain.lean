/-
  Plain mathematics for FnOpenAndNextWalkAFlatArray: the flat array's text, and how open and next walk it.
-/
import Derived.Test.Qxb6600666aPlain
namespace Go.Proofs.Qxb6600666a.Flat
open Go.Proofs.Qxb6600666a.Plain

/-- The text from the element on behind which m - 1 more stand, to the end; n elements, the letters e, the gaps G. -/
def bodyR (n : Nat) (e : Nat → UInt8) (G : Nat → List UInt8) : Nat → List UInt8
  | 0 => [93]
  | m + 1 => e (n - (m + 1)) :: (G (1 + 2 * (n - (m + 1))) ++ ((if m = 0 then [] else 44 :: G (2 + 2 * (n - (m + 1)))) ++ bodyR n e G m))

/-- The text from element j on. -/
def body (n : Nat) (e : Nat → UInt8) (G : Nat → List UInt8) (j : Nat) : List UInt8 := bodyR n e G (n - j)

def full (n : Nat) (e : Nat → UInt8) (G : Nat → List UInt8) : List UInt8 := 91 :: (G 0 ++ body n e G 0)

theorem body_end (n : Nat) (e : Nat → UInt8) (G : Nat → List UInt8) : body n e G n = [93] := by unfold body; rw [Nat.sub_self]; rfl

theorem body_mid (n : Nat) (e : Nat → UInt8) (G : Nat → List UInt8) (j : Nat) (h : j + 1 < n) : body n e G j = e j :: (G (1 + 2 * j) ++ (44 :: (G (2 + 2 * j) ++ body n e G (j + 1)))) := by
  unfold body
  obtain ⟨m, hm⟩ : ∃ m, n - j = m + 1 := ⟨n - j - 1, by omega⟩
  have h1 : n - (m + 1) = j := by omega
  have h2 : n - (j + 1) = m := by omega
  rw [hm, h2]
  show e (n - (m + 1)) :: _ = _
  rw [h1, if_neg (by omega)]
  simp

theorem body_last (n : Nat) (e : Nat → UInt8) (G : Nat → List UInt8) (j : Nat) (h : j + 1 = n) : body n e G j = e j :: (G (1 + 2 * j) ++ [93]) := by
  unfold body
  have hm : n - j = 0 + 1 := by omega
  have h1 : n - (0 + 1) = j := by omega
  rw [hm]
  show e (n - (0 + 1)) :: _ = _
  rw [h1, if_pos rfl]
  rfl

/-- The bytes of the first k gaps. -/
def SG (G : Nat → List UInt8) : Nat → Nat
  | 0 => 0
  | k + 1 => SG G k + (G k).length

theorem bodyR_len (n : Nat) (e : Nat → UInt8) (G : Nat → List UInt8) : ∀ m, m ≤ n → (bodyR n e G m).length + SG G (1 + 2 * (n - m)) ≤ 2 * m + 1 + SG G (1 + 2 * n)
  | 0, _ => by simp [bodyR]
  | m + 1, h => by
    have ih := bodyR_len n e G m (by omega)
    have h3 : 1 + 2 * (n - m) = (1 + 2 * (n - (m + 1))) + 1 + 1 := by omega
    have h4 : 2 + 2 * (n - (m + 1)) = (1 + 2 * (n - (m + 1))) + 1 := by omega
    rw [h3, SG, SG] at ih
    unfold bodyR
    rw [h4]
    generalize (1 + 2 * (n - (m + 1))) = q at *
    by_cases hm : m = 0
    · rw [if_pos hm]; simp only [List.length_cons, List.length_append, List.length_nil]; omega
    · rw [if_neg hm]; simp only [List.length_cons, List.length_append]; omega

theorem full_len (n : Nat) (e : Nat → UInt8) (G : Nat → List UInt8) : (full n e G).length ≤ 2 + 2 * n + SG G (1 + 2 * n) := by
  have h := bodyR_len n e G n (Nat.le_refl _)
  rw [Nat.sub_self] at h
  have h1 : SG G (1 + 2 * 0) = (G 0).length := by simp [SG]
  rw [h1] at h
  unfold full body
  rw [Nat.sub_zero]
  simp only [List.length_cons, List.length_append]
  omega

/-- Gaps past the list are empty: the sum stands still there. -/
theorem SG_le (G : Nat → List UInt8) (N : Nat) (h : ∀ k, N ≤ k → G k = []) : ∀ K, SG G K ≤ SG G N
  | 0 => by simp [SG]
  | K + 1 => by
    by_cases hk : K < N
    · have : ∀ a b, a ≤ b → SG G a ≤ SG G b := by
        intro a b hab
        induction hab with
        | refl => exact Nat.le_refl _
        | step _ ih => rw [SG]; omega
      exact this _ _ hk
    · rw [SG, h K (by omega)]
      simpa using SG_le G N h K

theorem e_not (e : Nat → UInt8) (he : ∀ j, 97 ≤ (e j).toNat ∧ (e j).toNat ≤ 122) (j : Nat) : isSp (e j) = false ∧ (e j == 93) = false ∧ (e j == 44) = false := by
  have h := he j
  refine ⟨isSp_not (by omega) (by omega) (by omega) (by omega), ?_, ?_⟩ <;>
    (rw [beq_eq_false_iff_ne]; intro c; rw [c] at h; simp at h)

/-- The first byte of what is left, behind a gap. -/
theorem body_head (n : Nat) (e : Nat → UInt8) (G : Nat → List UInt8) (j : Nat) (h : j < n) : ∃ R, body n e G j = e j :: R := by
  by_cases h' : j + 1 < n
  · exact ⟨_, body_mid n e G j h'⟩
  · exact ⟨_, body_last n e G j (by omega)⟩

theorem op_empty (n : Nat) (e : Nat → UInt8) (G : Nat → List UInt8) (hG : ∀ k, ∀ x ∈ G k, isSp x = true) (h0 : n = 0) : op (full n e G) 0 93 = ((full n e G).length, false, true) := by
  subst h0
  have hf : full 0 e G = [91] ++ G 0 ++ 93 :: [] := by unfold full; rw [body_end]; simp
  have hs : sk (full 0 e G) (0 + 1) = 1 + (G 0).length := by
    rw [hf]
    exact sk_over [91] (G 0) [] 93 (hG 0) (by decide)
  have ha : atB (full 0 e G) (sk (full 0 e G) (0 + 1)) 93 = true := by
    rw [hs, hf]
    have := atB_mid ([91] ++ G 0) [] 93 93
    simp only [List.length_append, List.length_cons, List.length_nil] at this
    rw [Nat.zero_add] at this
    rw [this]; rfl
  rw [op_end ha, hs, hf]
  simp; omega

theorem op_first (n : Nat) (e : Nat → UInt8) (G : Nat → List UInt8) (he : ∀ j, 97 ≤ (e j).toNat ∧ (e j).toNat ≤ 122) (hG : ∀ k, ∀ x ∈ G k, isSp x = true) (h0 : 0 < n) : op (full n e G) 0 93 = (1 + (G 0).length, true, true) ∧ full n e G = (91 :: G 0) ++ body n e G 0 := by
  obtain ⟨R, hR⟩ := body_head n e G 0 h0
  have hn := e_not e he 0
  have hf : full n e G = [91] ++ G 0 ++ e 0 :: R := by unfold full; rw [hR]; simp
  have hs : sk (full n e G) (0 + 1) = 1 + (G 0).length := by
    rw [hf]
    exact sk_over [91] (G 0) R (e 0) (hG 0) hn.1
  have ha : atB (full n e G) (sk (full n e G) (0 + 1)) 93 = false := by
    rw [hs, hf]
    have := atB_mid ([91] ++ G 0) R (e 0) 93
    simp only [List.length_append, List.length_cons, List.length_nil] at this
    rw [Nat.zero_add] at this
    rw [this]; exact hn.2.1
  exact ⟨by rw [op_no ha, hs], by unfold full; simp⟩

/-- Behind an element that is not the last: next stops at the next element. -/
theorem nx_mid (n : Nat) (e : Nat → UInt8) (G : Nat → List UInt8) (he : ∀ j, 97 ≤ (e j).toNat ∧ (e j).toNat ≤ 122) (hG : ∀ k, ∀ x ∈ G k, isSp x = true) (t A : List UInt8) (j : Nat) (ht : t = A ++ body n e G j) (h : j + 1 < n) :
    ∃ A', t = A' ++ body n e G (j + 1) ∧ nx t (A.length + 1) 93 = (A'.length, true, true) := by
  obtain ⟨R, hR⟩ := body_head n e G (j + 1) h
  have hn := e_not e he (j + 1)
  have hb := body_mid n e G j h
  have hs1 : sk t (A.length + 1) = A.length + 1 + (G (1 + 2 * j)).length := by
    have := sk_over (A ++ [e j]) (G (1 + 2 * j)) (G (2 + 2 * j) ++ body n e G (j + 1)) 44 (hG _) (by decide)
    rw [ht, hb]
    simpa using this
  have e1 : t = (A ++ [e j] ++ G (1 + 2 * j)) ++ 44 :: (G (2 + 2 * j) ++ body n e G (j + 1)) := by rw [ht, hb]; simp
  have l1 : (A ++ [e j] ++ G (1 + 2 * j)).length = A.length + 1 + (G (1 + 2 * j)).length := by simp; omega
  have ha : atB t (sk t (A.length + 1)) 93 = false := by
    have := atB_mid (A ++ [e j] ++ G (1 + 2 * j)) (G (2 + 2 * j) ++ body n e G (j + 1)) 44 93
    rw [← e1, l1] at this
    rw [hs1, this]; decide
  have hb' : atB t (sk t (A.length + 1)) 44 = true := by
    have := atB_mid (A ++ [e j] ++ G (1 + 2 * j)) (G (2 + 2 * j) ++ body n e G (j + 1)) 44 44
    rw [← e1, l1] at this
    rw [hs1, this]; decide
  refine ⟨A ++ [e j] ++ G (1 + 2 * j) ++ [44] ++ G (2 + 2 * j), by rw [e1]; simp, ?_⟩
  rw [nx_comma ha hb', hs1]
  have := sk_over (A ++ [e j] ++ G (1 + 2 * j) ++ [44]) (G (2 + 2 * j)) R (e (j + 1)) (hG _) hn.1
  have l2 : (A ++ [e j] ++ G (1 + 2 * j) ++ [44]).length = A.length + 1 + (G (1 + 2 * j)).length + 1 := by simp; omega
  rw [← hR, l2] at this
  have e2 : A ++ [e j] ++ G (1 + 2 * j) ++ [44] ++ G (2 + 2 * j) ++ body n e G (j + 1) = t := by rw [e1]; simp
  rw [e2] at this
  rw [this, List.length_append, l2]

/-- Behind the last element: next finds the close. -/
theorem nx_last (n : Nat) (e : Nat → UInt8) (G : Nat → List UInt8) (hG : ∀ k, ∀ x ∈ G k, isSp x = true) (t A : List UInt8) (j : Nat) (ht : t = A ++ body n e G j) (h : j + 1 = n) : nx t (A.length + 1) 93 = (t.length, false, true) := by
  have hb := body_last n e G j h
  have e1 : t = (A ++ [e j] ++ G (1 + 2 * j)) ++ 93 :: [] := by rw [ht, hb]; simp
  have hs1 : sk t (A.length + 1) = A.length + 1 + (G (1 + 2 * j)).length := by
    have := sk_over (A ++ [e j]) (G (1 + 2 * j)) [] 93 (hG _) (by decide)
    rw [e1]
    simpa using this
  have l1 : (A ++ [e j] ++ G (1 + 2 * j)).length = A.length + 1 + (G (1 + 2 * j)).length := by simp; omega
  have ha : atB t (sk t (A.length + 1)) 93 = true := by
    have := atB_mid (A ++ [e j] ++ G (1 + 2 * j)) [] 93 93
    rw [← e1, l1] at this
    rw [hs1, this]; decide
  have hl : t.length = A.length + 1 + (G (1 + 2 * j)).length + 1 := by rw [e1, List.length_append, l1]; rfl
  rw [nx_end ha, hs1, hl]

/-- Where the walk stands: at element c, or behind the close. -/
def P3 (n : Nat) (e : Nat → UInt8) (G : Nat → List UInt8) (c p : Nat) (m : Bool) : Prop :=
  (m = true ∧ c < n ∧ ∃ A, full n e G = A ++ body n e G c ∧ p = A.length) ∨ (m = false ∧ c = n ∧ p = (full n e G).length)

theorem P3_start (n : Nat) (e : Nat → UInt8) (G : Nat → List UInt8) (he : ∀ j, 97 ≤ (e j).toNat ∧ (e j).toNat ≤ 122) (hG : ∀ k, ∀ x ∈ G k, isSp x = true) :
    ∃ p m, op (full n e G) 0 93 = (p, m, true) ∧ P3 n e G 0 p m := by
  by_cases h0 : n = 0
  · exact ⟨_, _, op_empty n e G hG h0, .inr ⟨rfl, h0.symm, rfl⟩⟩
  · obtain ⟨h1, h2⟩ := op_first n e G he hG (by omega)
    exact ⟨_, _, h1, .inl ⟨rfl, by omega, _, h2, by simp; omega⟩⟩

theorem P3_step (n : Nat) (e : Nat → UInt8) (G : Nat → List UInt8) (he : ∀ j, 97 ≤ (e j).toNat ∧ (e j).toNat ≤ 122) (hG : ∀ k, ∀ x ∈ G k, isSp x = true) (c p : Nat) (h : P3 n e G c p true) :
    c < n ∧ p < (full n e G).length ∧ (full n e G)[p]? = some (e c) ∧ ∃ p' m', nx (full n e G) (p + 1) 93 = (p', m', true) ∧ P3 n e G (c + 1) p' m' := by
  rcases h with ⟨_, hc, A, hA, rfl⟩ | ⟨h, _⟩
  · obtain ⟨R, hR⟩ := body_head n e G c hc
    have hg : (full n e G)[A.length]? = some (e c) := by rw [hA, hR]; simp
    refine ⟨hc, by rw [hA, hR]; simp, hg, ?_⟩
    by_cases h' : c + 1 < n
    · obtain ⟨A', h1, h2⟩ := nx_mid n e G he hG _ A c hA h'
      exact ⟨_, _, h2, .inl ⟨rfl, h', A', h1, rfl⟩⟩
    · exact ⟨_, _, nx_last n e G hG _ A c hA (by omega), .inr ⟨rfl, by omega, rfl⟩⟩
  · cases h

end Go.Proofs.Qxb6600666a.Flat
