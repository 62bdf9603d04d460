/-
  The walks of zzBytes_FnOpenAndNextWalkAFlatArray and zzb1AppendGap.
-/
import Derived.Test.Qxb6600666aWs
import Derived.Test.Qxb6600666aFlatPlain
namespace Go.Proofs.Qxb6600666a.FlatCalls
open Go.RowKit Go.Proofs.Qxb6600666a.Plain Go.Proofs.Qxb6600666a.Buf Go.Proofs.Qxb6600666a.Ws Go.Proofs.Qxb6600666a.Flat

/-- The slice at ad holds the n strings gs. -/
def Gaps (w : World) (ad : Option Addr) (n : Nat) (gs : Nat → ByteArray) : Prop :=
  ∀ k, k < n → ∃ b off, ad = some ⟨b, off, none⟩ ∧ w.cell? ⟨b, off + k, none⟩ = some (.string (gs k))

theorem Gaps.later {w w' : World} {ad : Option Addr} {n : Nat} {gs : Nat → ByteArray} (h : Gaps w ad n gs) {B : Nat} (hB : w.heap.size ≤ B) (hb : Below B w w') : Gaps w' ad n gs := by
  intro k hk
  obtain ⟨b, off, e, hc⟩ := h k hk
  refine ⟨b, off, e, ?_⟩
  have := World.block_lt_of_cell? w _ hc
  rw [hb.cell (p := ⟨b, off + k, none⟩) (by show b < B; have : b < w.heap.size := this; omega)]
  exact hc

/-- It answers a bool and turns nothing; where it says yes no gap is longer than a megabyte. -/
def Answers (gs : Nat → ByteArray) (n : Nat) (w : World) (e : Ending) (w' : World) : Prop := ∃ r : Bool, e = .returned (.bool r) ∧ w = w' ∧ (r = true → ∀ k, k < n → (gs k).size ≤ 1048576)

theorem bytes_any (s : ByteArray) (ad : Option Addr) (n cap : Nat) (gs : Nat → ByteArray) (d : Int) (w : World) (hs : s.size ≤ maxLen) (hn : n ≤ maxLen) (hg : Gaps w ad n gs) (hgs : ∀ k, k < n → (gs k).size ≤ maxLen) :
    Calls Try.prog 20 #[.string s, .slice ad n cap, .int .i64 d] w (Answers gs n w) := by
  unfold maxLen at hs hn hgs
  by_cases h0 : s.size ≤ 1048576
  · by_cases h1 : n ≤ 1048576
    · by_cases h2 : (s.size : Int) + (n : Int) ≤ 1048576
      · have HG := (show Hid _ from hg)
        have HS := (show Hid (∀ k, k < n → (gs k).size ≤ 2 ^ 63 - 1) from hgs)
        clear hg hgs
        go_enter Try.func20, Try.ntmps20
        go_wp2
        go_loop [7, 8] (fun z i => ∃ (k : Nat) (t : Int), k ≤ n ∧ i = .int .i64 k ∧ z = .int .i64 t ∧ 0 ≤ t ∧ t ≤ 1048576 ∧ Aside (∀ j, j < k → (gs j).size ≤ 1048576)) (fun _ i => n - (intOf i).toNat)
        case atStart => exact ⟨0, _, by omega, rfl, rfl, by omega, by omega, fun j h => absurd h (by omega)⟩
        case round =>
          obtain ⟨k, t, hk, rfl, rfl, ht0, ht1, hA⟩ := hrel
          by_cases hlt : k < n
          · obtain ⟨b, off, rfl, hc⟩ := HG.out k hlt
            have hsz := HS.out k hlt
            by_cases h3 : (gs k).size ≤ 1048576
            · by_cases h4 : t + ((gs k).size : Int) ≤ 1048576
              · go_wp2
                go_round
                case rel => exact ⟨k + 1, _, by omega, by go_num, rfl, by omega, by omega, fun j h => if e : j = k then by subst e; exact h3 else hA.out j (by omega)⟩
                case measure => simp [intOf]; omega
              · go_wp2
                go_ret
                exact ⟨_, rfl, rfl, fun h => by cases h⟩
            · have h3' : (1048576 : Int) < ((gs k).size : Int) := by omega
              go_wp2
              go_ret
              exact ⟨_, rfl, rfl, fun h => by cases h⟩
          · go_wp2
            go_ret
            exact ⟨_, rfl, rfl, fun _ j h => hA.out j (by omega)⟩
      · go_enter Try.func20, Try.ntmps20
        go_wp2
        go_ret
        exact ⟨_, rfl, rfl, fun h => by cases h⟩
    · have h1' : (1048576 : Int) < (n : Int) := by omega
      go_enter Try.func20, Try.ntmps20
      go_wp2
      go_ret
      exact ⟨_, rfl, rfl, fun h => by cases h⟩
  · have h0' : (1048576 : Int) < (s.size : Int) := by omega
    go_enter Try.func20, Try.ntmps20
    go_wp2
    go_ret
    exact ⟨_, rfl, rfl, fun h => by cases h⟩

/-- The white space that stands for a gap's bytes. -/
def wsOf (s : ByteArray) : List UInt8 := s.data.toList.map fun c => wsn (c.toNat % 4)

def gap (gs : Nat → ByteArray) (n k : Nat) : List UInt8 := if k < n then wsOf (gs k) else []

theorem wsOf_len (s : ByteArray) : (wsOf s).length = s.size := by unfold wsOf; simp

theorem wsOf_snoc (s : ByteArray) (k : Nat) (h : k < s.size) : (wsOf s).take (k + 1) = (wsOf s).take k ++ [wsn (s[k].toNat % 4)] := by
  rw [List.take_succ_eq_append_getElem (by rw [wsOf_len]; exact h)]
  congr 2
  unfold wsOf
  simp
  rfl

theorem gap_sp (gs : Nat → ByteArray) (n k : Nat) : ∀ x ∈ gap gs n k, isSp x = true := by
  intro x hx
  unfold gap at hx
  split at hx
  · unfold wsOf at hx
    obtain ⟨c, _, rfl⟩ := List.mem_map.1 hx
    exact wsn_sp _
  · simp at hx

theorem gap_any (B : Nat) (W0 : World) (v : Value) (L : List UInt8) (ad : Option Addr) (n cap k : Nat) (z : Int) (gs : Nat → ByteArray) (w : World) (hz : z = (k : Int)) (hb : Buf B W0 v L w) (hg : Gaps W0 ad n gs) (hB : W0.heap.size ≤ B)
    (hlen : L.length + (gap gs n k).length ≤ 1000000000) :
    Calls Try.prog 21 #[v, .slice ad n cap, .int .i64 z] w fun e w' => ∃ v', e = .returned v' ∧ Buf B W0 v' (L ++ gap gs n k) w' := by
  subst hz
  obtain ⟨i0, hi, hz0, hz1, hz2⟩ := info_parts Try.info5
  by_cases hk : k < n
  · obtain ⟨b, off, rfl, hc⟩ := hg k hk
    have hbB : b < B := Nat.lt_of_lt_of_le (World.block_lt_of_cell? W0 _ hc) hB
    have hcw : w.cell? ⟨b, off + k, none⟩ = some (.string (gs k)) := by rw [hb.below.cell (p := ⟨b, off + k, none⟩) hbB]; exact hc
    have hgk : gap gs n k = wsOf (gs k) := by unfold gap; rw [if_pos hk]
    rw [hgk] at hlen ⊢
    generalize hS : gs k = S at *
    rw [wsOf_len] at hlen
    clear hg hc hgk hS
    have q1 : decide (n ≤ k) = false := by simp; omega
    have q2 : decide ((k : Int) < 0) = false := by simp
    go_enter Try.func21, Try.ntmps21
    go_wp2
    go_loopg [0, 8] S.size (fun g b i wr => ∃ m : Nat, m ≤ S.size ∧ g = S.size - m ∧ i = .int .i64 m ∧ Buf B W0 b (L ++ (wsOf S).take m) wr)
    case atStart => exact ⟨0, by omega, rfl, rfl, by simpa using hb⟩
    case round =>
      obtain ⟨m, hm, hgm, rfl, hbr⟩ := hrel
      have HGM := (show Hid (gk = S.size - m) from hgm)
      clear hgm
      clear hb hcw
      by_cases hlt : m < S.size
      · have hlx : (L ++ (wsOf S).take m).length + 1 ≤ 1000000000 := by rw [List.length_append, List.length_take, wsOf_len]; omega
        go_wp2_with (at_builtin; refine buf_one rfl (.tmp 28) (.tmp 34) 23 rfl i0 Try.underlying23 hi hz0 hz1 hz2 B W0 u0 _ rfl hbr rfl _ _ rfl hlx ?_; intro v5 w5 hb5)
        go_roundg (S.size - (m + 1))
        case measure => rw [HGM.out]; omega
        case rel =>
          rw [ws_at _ (by omega), List.append_assoc, ← wsOf_snoc S m hlt] at hb5
          exact ⟨m + 1, by omega, rfl, by go_num, hb5⟩
      · obtain rfl : m = S.size := by omega
        go_wp2
        go_ret
        rw [List.take_of_length_le (by rw [wsOf_len]; exact Nat.le_refl _)] at hbr
        exact ⟨_, rfl, hbr⟩
  · have hgk : gap gs n k = [] := by unfold gap; rw [if_neg hk]
    rw [hgk, List.append_nil]
    clear hgk hlen
    go_enter Try.func21, Try.ntmps21
    go_wp2
    go_ret
    exact ⟨_, rfl, hb⟩
end Go.Proofs.Qxb6600666a.FlatCalls
