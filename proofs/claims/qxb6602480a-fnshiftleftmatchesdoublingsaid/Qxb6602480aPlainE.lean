/-
  PLAIN, E: rows of words as numbers; what 'Compare' answers, against the difference of the numbers. No Go in sight.
-/
import Derived.Test.Qxb6602480aWalksD
namespace Go.Proofs.Qxb6602480a
open Go.RowKit
set_option linter.unusedVariables false

/-- The word that sign-extends the word x, as 'lwSignWord' reckons it. -/
def sgnM (x : Int) : Int := if x / 9223372036854775808 = 1 then 18446744073709551615 else 0
/-- All are words. -/
def Words (xs : List Int) : Prop := ∀ j : Nat, 0 ≤ xs[j]?.getD 0 ∧ xs[j]?.getD 0 < 18446744073709551616
/-- 2^64 to the k. -/
def B : Nat → Int
  | 0 => 1
  | k + 1 => 18446744073709551616 * B k
/-- The number of the first k words. -/
def U (xs : List Int) : Nat → Int
  | 0 => 0
  | k + 1 => U xs k + xs[k]?.getD 0 * B k
/-- The sign. -/
def sg (v : Int) : Int := if v = 0 then 0 else if v < 0 then -1 else 1

theorem B_succ (k : Nat) : B (k + 1) = 18446744073709551616 * B k := rfl
theorem U_succ (xs : List Int) (k : Nat) : U xs (k + 1) = U xs k + xs[k]?.getD 0 * B k := rfl
theorem B_pos : ∀ k, 0 < B k
  | 0 => by decide
  | k + 1 => by have := B_pos k; unfold B; omega

/-- A word times 2^64 to the k: between 0 and one less. -/
theorem word_B (x : Int) (k : Nat) (h0 : 0 ≤ x) (h1 : x < 18446744073709551616) : 0 ≤ x * B k ∧ x * B k ≤ 18446744073709551616 * B k - B k := by
  have hp := B_pos k
  refine ⟨Int.mul_nonneg h0 (by omega), ?_⟩
  have := Int.mul_le_mul_of_nonneg_right (a := x) (b := 18446744073709551615) (c := B k) (by omega) (by omega)
  omega

theorem U_bounds {xs : List Int} (h : Words xs) : ∀ k, 0 ≤ U xs k ∧ U xs k < B k
  | 0 => by unfold U B; omega
  | k + 1 => by
    have ih := U_bounds h k
    have hw := word_B (xs[k]?.getD 0) k (h k).1 (h k).2
    rw [U_succ, B_succ]
    omega

theorem B_lt {x y : Int} (k : Nat) (h : x < y) : x * B k + B k ≤ y * B k := by
  have := Int.mul_le_mul_of_nonneg_right (a := x + 1) (b := y) (c := B k) (by omega) (by have := B_pos k; omega)
  rw [Int.add_mul] at this
  omega

theorem cmpLow_sg {xs ys : List Int} (hx : Words xs) (hy : Words ys) : ∀ k, cmpLow xs ys k = sg (U xs k - U ys k)
  | 0 => rfl
  | k + 1 => by
    have ih := cmpLow_sg hx hy k
    have b1 := U_bounds hx k
    have b2 := U_bounds hy k
    unfold cmpLow U
    split
    · rename_i e
      rw [ih, e]
      congr 1
      omega
    · rename_i e
      split
      · rename_i h
        have := B_lt k h
        unfold sg
        rw [if_neg (by omega), if_pos (by omega)]
      · rename_i h
        have := B_lt (x := ys[k]?.getD 0) (y := xs[k]?.getD 0) k (by omega)
        unfold sg
        rw [if_neg (by omega), if_neg (by omega)]

theorem cmpOut_eq {xs ys : List Int} (hx : Words xs) (hy : Words ys) (m : Nat) :
    cmpOut xs ys m = if sgnM (xs[m]?.getD 0) = sgnM (ys[m]?.getD 0) then cmpLow xs ys (m + 1) else if sgnM (xs[m]?.getD 0) = 0 then 1 else -1 := by
  have b1 := hx m
  have b2 := hy m
  unfold cmpOut cmpTop sgnM wrap64
  rw [cmpLow]
  generalize xs[m]?.getD 0 = x at *
  generalize ys[m]?.getD 0 = y at *
  repeat' split
  all_goals (first | rfl | omega)

/-- What the loop of 'lwCmpModel' holds after k rounds, k at most n. -/
def Inv (xs ys : List Int) (k : Nat) (bw : Int) (z : Bool) : Prop :=
  ∃ D, 0 ≤ D ∧ D < B k ∧ (z = true ↔ D = 0) ∧ U xs k - U ys k = D - bw * B k
/-- What it holds after n + 1 rounds. -/
def Fin1 (xs ys : List Int) (n : Nat) (t : Int) (z : Bool) : Prop := (if z = true then 0 else if t / 9223372036854775808 = 1 then -1 else 1) = cmpOut xs ys (n - 1)

theorem inv_zero (xs ys : List Int) : Inv xs ys 0 0 true := ⟨0, by decide, by decide, by simp, by simp [U]⟩

theorem inv_step {xs ys : List Int} {k : Nat} {bw : Int} {z : Bool} (h : Inv xs ys k bw z) {x y d bw' : Int} {z' : Bool} (hx : x = xs.getD k 0) (hy : y = ys.getD k 0)
    (e : x - y - bw = d - 18446744073709551616 * bw') (h0 : 0 ≤ d) (h1 : d < 18446744073709551616) (hz : z' = true ↔ z = true ∧ d = 0) : Inv xs ys (k + 1) bw' z' := by
  obtain ⟨D, d0, d1, dz, hu⟩ := h
  have hp := B_pos k
  have hw := word_B d k h0 h1
  have hx' : xs[k]?.getD 0 = x := hx.symm
  have hy' : ys[k]?.getD 0 = y := hy.symm
  have e2 : (x - y - bw) * B k = (d - 18446744073709551616 * bw') * B k := by rw [e]
  rw [Int.sub_mul, Int.sub_mul, Int.sub_mul] at e2
  have e3 : 18446744073709551616 * bw' * B k = bw' * (18446744073709551616 * B k) := by
    rw [Int.mul_comm 18446744073709551616 bw', Int.mul_assoc]
  refine ⟨D + d * B k, by omega, by rw [B_succ]; omega, ?_, ?_⟩
  · rw [hz, dz]
    constructor
    · rintro ⟨rfl, rfl⟩
      omega
    · intro hs
      have hd : D = 0 := by omega
      have hdb : d * B k = 0 := by omega
      refine ⟨hd, ?_⟩
      rcases Int.mul_eq_zero.1 hdb with h | h
      · exact h
      · omega
  · rw [U_succ, U_succ, B_succ, hx', hy']
    omega

theorem fin_step {xs ys : List Int} (hwx : Words xs) (hwy : Words ys) {n : Nat} (hn : 1 ≤ n) {bw : Int} {z : Bool} (h : Inv xs ys n bw z) (hb0 : 0 ≤ bw) (hb1 : bw ≤ 1) {x y d bw' : Int} {z' : Bool}
    (hx : x = sgnM (xs.getD (n - 1) 0)) (hy : y = sgnM (ys.getD (n - 1) 0))
    (e : x - y - bw = d - 18446744073709551616 * bw') (h0 : 0 ≤ d) (h1 : d < 18446744073709551616) (hz : z' = true ↔ z = true ∧ d = 0) : Fin1 xs ys n d z' := by
  obtain ⟨m, rfl⟩ : ∃ m, n = m + 1 := ⟨n - 1, by omega⟩
  obtain ⟨D, d0, d1, dz, hu⟩ := h
  have u1 := U_bounds hwx (m + 1)
  have u2 := U_bounds hwy (m + 1)
  have hp := B_pos (m + 1)
  have hx' : sgnM (xs[m]?.getD 0) = x := hx.symm
  have hy' : sgnM (ys[m]?.getD 0) = y := hy.symm
  have cx : x = 0 ∨ x = 18446744073709551615 := by rw [hx]; unfold sgnM; split <;> simp
  have cy : y = 0 ∨ y = 18446744073709551615 := by rw [hy]; unfold sgnM; split <;> simp
  unfold Fin1
  rw [show m + 1 - 1 = m from rfl, cmpOut_eq hwx hwy, hx', hy', cmpLow_sg hwx hwy, hu]
  have cb : bw = 0 ∨ bw = 1 := by omega
  clear hx hy hx' hy'
  have hzz : z' = true ↔ D = 0 ∧ d = 0 := by rw [hz, dz]
  unfold sg
  rcases cx with rfl | rfl <;> rcases cy with rfl | rfl <;> rcases cb with rfl | rfl <;> cases z'
  all_goals simp only [Bool.false_eq_true, false_iff, true_iff, Int.zero_mul, Int.one_mul, Int.sub_zero, if_true, if_false] at hzz hu ⊢
  all_goals (repeat' split)
  all_goals omega
end Go.Proofs.Qxb6602480a
