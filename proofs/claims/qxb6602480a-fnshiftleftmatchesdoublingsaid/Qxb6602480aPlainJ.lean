/-
  PLAIN, J: words shifted left, against words doubled. No Go in sight.
-/
import Derived.Test.Qxb6602480aMem
namespace Go.Proofs.Qxb6602480a
open Go.RowKit
set_option linter.unusedVariables false

/-- All are words. -/
def IsWords (xs : List Int) : Prop := ∀ j : Nat, 0 ≤ xs[j]?.getD 0 ∧ xs[j]?.getD 0 < 18446744073709551616

/-- What 'shiftLeft' carries into word j. -/
def car (ms : List Int) (s : Nat) : Nat → Int
  | 0 => 0
  | j + 1 => ms[j]?.getD 0 / 2 ^ (64 - s)
/-- What it lays into word j. -/
def shlAt (ms : List Int) (s j : Nat) : Int := bits .or .u64 (IntKind.u64.wrap (ms[j]?.getD 0 * 2 ^ s)) (car ms s j)
def shl (ms : List Int) (s n : Nat) : List Int := (List.range n).map (shlAt ms s)

/-- What 'lwDouble' carries into word j. -/
def dcar (xs : List Int) : Nat → Int
  | 0 => 0
  | j + 1 => if IntKind.u64.wrap (xs[j]?.getD 0 + xs[j]?.getD 0) < xs[j]?.getD 0 then 1 else 0
def dblAt (xs : List Int) (j : Nat) : Int := IntKind.u64.wrap (IntKind.u64.wrap (xs[j]?.getD 0 + xs[j]?.getD 0) + dcar xs j)
def dbl (xs : List Int) (n : Nat) : List Int := (List.range n).map (dblAt xs)

theorem shl_len (ms : List Int) (s n : Nat) : (shl ms s n).length = n := by simp [shl]
theorem dbl_len (xs : List Int) (n : Nat) : (dbl xs n).length = n := by simp [dbl]
theorem shl_at (ms : List Int) (s n j : Nat) (h : j < n) : (shl ms s n)[j]?.getD 0 = shlAt ms s j := by simp [shl, h]
theorem dbl_at (xs : List Int) (n j : Nat) (h : j < n) : (dbl xs n)[j]?.getD 0 = dblAt xs j := by simp [dbl, h]

/-! ### Powers of two -/
theorem pow_pos (s : Nat) : (0 : Int) < 2 ^ s := Int.pow_pos (by decide)
theorem pow_split (s : Nat) (h : s ≤ 63) : (2 : Int) ^ s * 2 ^ (63 - s) = 9223372036854775808 := by
  rw [← Int.pow_add, show s + (63 - s) = 63 from by omega]; rfl
theorem pow_next (s : Nat) (h : s ≤ 63) : (2 : Int) ^ (64 - s) = 2 * 2 ^ (63 - s) := by
  rw [show 64 - s = (63 - s) + 1 from by omega, Int.pow_succ, Int.mul_comm]

/-- 'q shifted, or a carry that fits beneath it': a sum. -/
theorem or_sum (q S c : Nat) (s : Nat) (hS : S = 2 ^ s) (hc : c < S) (hb : q * S + c < 18446744073709551616) : bits .or .u64 ((q * S : Nat) : Int) (c : Int) = ((q * S + c : Nat) : Int) := by
  rw [u64_or_nat _ _ (by omega) (by omega)]
  congr 1
  subst hS
  rw [← Nat.shiftLeft_eq, Nat.shiftLeft_add_eq_or_of_lt hc]

/-- A word shifted: what is left of it. -/
theorem wrap_shift (a : Int) (s : Nat) (hs : s ≤ 63) : IntKind.u64.wrap (a * 2 ^ s) = a % (2 * 2 ^ (63 - s)) * 2 ^ s := by
  rw [IntKind.wrap_u64, show (18446744073709551616 : Int) = 2 ^ s * (2 * 2 ^ (63 - s)) from by rw [Int.mul_comm 2, ← Int.mul_assoc, pow_split s hs]; rfl, Int.mul_comm a, Int.mul_emod_mul_of_pos _ _ (pow_pos s), Int.mul_comm]

/-- The word that the shift lays, as a sum. -/
theorem or_word (a c : Int) (s : Nat) (hs : s ≤ 63) (ha : 0 ≤ a) (hc0 : 0 ≤ c) (hc : c < 2 ^ s) :
    bits .or .u64 (IntKind.u64.wrap (a * 2 ^ s)) c = a % (2 * 2 ^ (63 - s)) * 2 ^ s + c := by
  have hQ := pow_pos (63 - s)
  have hP := pow_split s hs
  have hS := pow_pos s
  rw [wrap_shift a s hs]
  have hq0 : 0 ≤ a % (2 * 2 ^ (63 - s)) := Int.emod_nonneg _ (by omega)
  have hq1 : a % (2 * 2 ^ (63 - s)) < 2 * 2 ^ (63 - s) := Int.emod_lt_of_pos _ (by omega)
  obtain ⟨q, hq⟩ := Int.eq_ofNat_of_zero_le hq0
  obtain ⟨c, rfl⟩ := Int.eq_ofNat_of_zero_le hc0
  rw [hq] at hq1 ⊢
  have hb : ((q * 2 ^ s + c : Nat) : Int) < 18446744073709551616 := by
    have h1 : ((q : Int) + 1) * 2 ^ s ≤ 2 * 2 ^ (63 - s) * 2 ^ s := Int.mul_le_mul_of_nonneg_right (by omega) (by omega)
    have h2 : 2 * 2 ^ (63 - s) * (2 : Int) ^ s = 18446744073709551616 := by rw [Int.mul_assoc, Int.mul_comm (2 ^ (63 - s)), hP]; rfl
    rw [Int.add_mul, h2] at h1
    push_cast
    omega
  have hc' : c < 2 ^ s := by
    have : ((2 ^ s : Nat) : Int) = (2 : Int) ^ s := by push_cast; rfl
    omega
  have := or_sum q (2 ^ s) c s rfl hc' (by omega)
  push_cast at this
  exact this

theorem car_bounds {ms : List Int} (hw : IsWords ms) (s : Nat) (hs : s ≤ 63) (j : Nat) : 0 ≤ car ms s j ∧ car ms s j < 2 ^ s := by
  cases j with
  | zero => exact ⟨Int.le_refl _, pow_pos s⟩
  | succ j =>
    have hQ := pow_pos (63 - s)
    have hb := hw j
    show 0 ≤ ms[j]?.getD 0 / 2 ^ (64 - s) ∧ ms[j]?.getD 0 / 2 ^ (64 - s) < 2 ^ s
    rw [pow_next s hs]
    refine ⟨Int.ediv_nonneg hb.1 (by omega), Int.ediv_lt_of_lt_mul (by omega) ?_⟩
    rw [Int.mul_comm 2, ← Int.mul_assoc, pow_split s hs]
    omega

theorem shlAt_sum {ms : List Int} (hw : IsWords ms) (s : Nat) (hs : s ≤ 63) (j : Nat) : shlAt ms s j = ms[j]?.getD 0 % (2 * 2 ^ (63 - s)) * 2 ^ s + car ms s j := by
  have hc := car_bounds hw s hs j
  exact or_word _ _ s hs (hw j).1 hc.1 hc.2

/-- What a word that is shifted holds: T = α·S + c, S = 2^s, Q·S = 2^63, α below 2·Q. -/
theorem word_parts {ms : List Int} (hw : IsWords ms) (s : Nat) (hs : s ≤ 63) (j : Nat) :
    ∃ α c : Int, shlAt ms s j = α * 2 ^ s + c ∧ 0 ≤ c ∧ c < 2 ^ s ∧ 0 ≤ α ∧ α < 2 * 2 ^ (63 - s) ∧ α = ms[j]?.getD 0 % (2 * 2 ^ (63 - s)) ∧ c = car ms s j := by
  have hQ := pow_pos (63 - s)
  have hc := car_bounds hw s hs j
  exact ⟨_, _, shlAt_sum hw s hs j, hc.1, hc.2, Int.emod_nonneg _ (by omega), Int.emod_lt_of_pos _ (by omega), rfl, rfl⟩

theorem mul_bound {α Q S : Int} (h : α < Q) (hS : 0 < S) : α * S + S ≤ Q * S := by
  have := Int.mul_le_mul_of_nonneg_right (a := α + 1) (b := Q) (c := S) (by omega) (by omega)
  rw [Int.add_mul] at this
  omega

/-- The carry that 'lwDouble' takes out of a shifted word: its topmost bit. -/
theorem dcar_shl {ms : List Int} (hw : IsWords ms) (s n : Nat) (hs : s ≤ 63) (j : Nat) (hj : j < n) :
    dcar (shl ms s n) (j + 1) = ms[j]?.getD 0 / 2 ^ (63 - s) - 2 * (ms[j]?.getD 0 / (2 * 2 ^ (63 - s))) := by
  have hQ := pow_pos (63 - s)
  have hS := pow_pos s
  have hP := pow_split s hs
  obtain ⟨α, c, e, c0, c1, a0, a1, ha, hc⟩ := word_parts hw s hs j
  show (if IntKind.u64.wrap ((shl ms s n)[j]?.getD 0 + (shl ms s n)[j]?.getD 0) < (shl ms s n)[j]?.getD 0 then 1 else 0) = _
  rw [shl_at ms s n j hj, e, IntKind.wrap_u64]
  generalize hQe : (2 : Int) ^ (63 - s) = Q at *
  generalize hSe : (2 : Int) ^ s = S at *
  generalize ms[j]?.getD 0 = b at *
  rw [Int.mul_comm] at hP
  have hd := Int.emod_add_mul_ediv b (2 * Q)
  have hdd : b / (2 * Q) = b / Q / 2 := by rw [Int.mul_comm, Int.ediv_ediv_of_nonneg (by omega)]
  have he := Int.emod_add_mul_ediv b Q
  have he0 : 0 ≤ b % Q := Int.emod_nonneg _ (by omega)
  have he1 : b % Q < Q := Int.emod_lt_of_pos _ (by omega)
  by_cases h : α < Q
  · have h1 := mul_bound h hS
    have hb : b / Q - 2 * (b / (2 * Q)) = 0 := by
      rw [hdd]
      have : (b / Q) % 2 = 0 ∨ (b / Q) % 2 = 1 := by omega
      rcases this with t | t
      · omega
      · exfalso
        have e1 : b / Q = 2 * (b / Q / 2) + 1 := by omega
        rw [hdd] at hd
        have e2 : Q * (b / Q) = Q * (2 * (b / Q / 2)) + Q := by
          have := congrArg (fun t => Q * t) e1
          simp only [Int.mul_add, Int.mul_one] at this
          exact this
        have e3 : 2 * Q * (b / Q / 2) = Q * (2 * (b / Q / 2)) := by rw [Int.mul_comm 2 Q, Int.mul_assoc]
        omega
    rw [hb, if_neg (by omega)]
  · have h1 := mul_bound a1 hS
    have h2 := Int.mul_le_mul_of_nonneg_right (a := Q) (b := α) (c := S) (by omega) (by omega)
    rw [Int.mul_assoc 2 Q S] at h1
    have hb : b / Q - 2 * (b / (2 * Q)) = 1 := by
      rw [hdd]
      have : (b / Q) % 2 = 0 ∨ (b / Q) % 2 = 1 := by omega
      rcases this with t | t
      · exfalso
        have e1 : b / Q = 2 * (b / Q / 2) := by omega
        rw [hdd] at hd
        have e2 : Q * (b / Q) = Q * (2 * (b / Q / 2)) := by rw [← e1]
        have e3 : 2 * Q * (b / Q / 2) = Q * (2 * (b / Q / 2)) := by rw [Int.mul_comm 2 Q, Int.mul_assoc]
        omega
      · omega
    rw [hb, if_pos (by omega)]

/-- The carries of the next shift out of this one's. -/
theorem car_next {ms : List Int} (hw : IsWords ms) (s n : Nat) (hs : s + 1 ≤ 63) (j : Nat) (hj : j < n) :
    car ms (s + 1) j = 2 * car ms s j + dcar (shl ms s n) j ∧ 0 ≤ dcar (shl ms s n) j ∧ dcar (shl ms s n) j ≤ 1 := by
  have hd : 0 ≤ dcar (shl ms s n) j ∧ dcar (shl ms s n) j ≤ 1 := by
    cases j with
    | zero => exact ⟨Int.le_refl 0, by show (0 : Int) ≤ 1; decide⟩
    | succ j => unfold dcar; split <;> omega
  refine ⟨?_, hd⟩
  cases j with
  | zero => rfl
  | succ j =>
    rw [dcar_shl hw s n (by omega) j (by omega)]
    show ms[j]?.getD 0 / 2 ^ (64 - (s + 1)) = 2 * (ms[j]?.getD 0 / 2 ^ (64 - s)) + _
    rw [pow_next s (by omega), show 64 - (s + 1) = 63 - s from by omega]
    omega

theorem dbl_word {ms : List Int} (hw : IsWords ms) (s n : Nat) (hs : s + 1 ≤ 63) (j : Nat) (hj : j < n) : dblAt (shl ms s n) j = shlAt ms (s + 1) j := by
  have hQ := pow_pos (63 - s)
  have hS := pow_pos s
  have hP := pow_split s (by omega)
  obtain ⟨e1, d0, d1⟩ := car_next hw s n hs j hj
  obtain ⟨α, c, e, c0, c1, a0, a1, ha, hc⟩ := word_parts hw s (by omega) j
  rw [shlAt_sum hw (s + 1) hs j, e1, ← hc]
  unfold dblAt
  rw [shl_at ms s n j hj, e]
  rw [show (2 : Int) * 2 ^ (63 - (s + 1)) = 2 ^ (63 - s) from by rw [show 63 - s = (63 - (s + 1)) + 1 from by omega, Int.pow_succ, Int.mul_comm], Int.pow_succ, IntKind.wrap_u64, IntKind.wrap_u64]
  generalize dcar (shl ms s n) j = d at *
  generalize (2 : Int) ^ (63 - s) = Q at *
  generalize (2 : Int) ^ s = S at *
  generalize ms[j]?.getD 0 = a at *
  clear e e1 hc
  rw [Int.mul_comm] at hP
  have hm : a % Q = α % Q := by rw [ha, Int.emod_emod_of_dvd a (Int.dvd_mul_left 2 Q)]
  rw [hm]
  clear ha hm
  have h0 := Int.mul_nonneg a0 (Int.le_of_lt hS)
  by_cases h : α < Q
  · have h1 := mul_bound h hS
    rw [Int.emod_eq_of_lt a0 h, ← Int.mul_assoc]
    omega
  · have h1 := mul_bound a1 hS
    rw [Int.mul_assoc 2 Q S] at h1
    have hmod : α % Q = α - Q := by
      rw [← Int.sub_emod_right α Q]
      exact Int.emod_eq_of_lt (by omega) (by omega)
    have h2 := Int.mul_le_mul_of_nonneg_right (a := Q) (b := α) (c := S) (by omega) (by omega)
    rw [hmod, ← Int.mul_assoc, Int.sub_mul]
    omega

/-- Doubled once more: shifted by one more. -/
theorem dbl_shl {ms : List Int} (hw : IsWords ms) (s n : Nat) (hs : s + 1 ≤ 63) : dbl (shl ms s n) n = shl ms (s + 1) n := by
  unfold dbl
  rw [shl]
  apply List.map_congr_left
  intro j hj
  exact dbl_word hw s n hs j (by simpa using hj)

/-- Not shifted at all. -/
theorem shl_zero {ms : List Int} (hw : IsWords ms) (n j : Nat) (hj : j < n) : (shl ms 0 n)[j]?.getD 0 = ms[j]?.getD 0 := by
  rw [shl_at ms 0 n j hj, shlAt_sum hw 0 (by omega)]
  have hc := car_bounds hw 0 (by omega) j
  have hb := hw j
  have h0 : car ms 0 j = 0 := by
    have : (2 : Int) ^ 0 = 1 := rfl
    omega
  have h1 : (2 : Int) * 2 ^ (63 - 0) = 18446744073709551616 := by decide
  rw [h0, h1, Int.emod_eq_of_lt hb.1 hb.2]
  simp

/-- Past the last word only the carry is left. -/
theorem shl_last {ms : List Int} (hw : IsWords ms) (s : Nat) (hs : s ≤ 63) (j : Nat) (hj : ms.length ≤ j) : shlAt ms s j = car ms s j := by
  rw [shlAt_sum hw s hs, List.getElem?_eq_none hj]
  simp

theorem shl_words {ms : List Int} (hw : IsWords ms) (s n : Nat) (hs : s ≤ 63) : IsWords (shl ms s n) := by
  intro j
  by_cases hj : j < n
  · obtain ⟨α, c, e, c0, c1, a0, a1, ha, hc⟩ := word_parts hw s hs j
    have hS := pow_pos s
    have hP := pow_split s hs
    have h1 := mul_bound a1 hS
    rw [Int.mul_assoc, Int.mul_comm (2 ^ (63 - s)), hP] at h1
    rw [shl_at ms s n j hj, e]
    have := Int.mul_nonneg a0 (Int.le_of_lt hS)
    omega
  · rw [List.getElem?_eq_none (by rw [shl_len]; omega)]
    simp
end Go.Proofs.Qxb6602480a
