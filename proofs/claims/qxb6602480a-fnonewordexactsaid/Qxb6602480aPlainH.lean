/-
  PLAIN, H: 'oneWord' and 'Compare' together; what 'oneWord' accepts, against the least and the greatest int64. No Go in sight.
-/
import Derived.Test.Qxb6602480aWalksB
import Derived.Test.Qxb6602480aPlainE
namespace Go.Proofs.Qxb6602480a
open Go.RowKit
set_option linter.unusedVariables false

/-! ### THE PLAIN LAW: where both are one word, 'Compare' answers as the two numbers stand -/
theorem sgnW_eq {x : Int} (h : 0 ≤ x ∧ x < 18446744073709551616) : sgnW x = sgnM x := by
  unfold sgnW sgnM wrap64
  rw [IntKind.wrap_u64]
  split <;> omega
theorem sgnM_sgnM (x : Int) : sgnM (sgnM x) = sgnM x := by
  unfold sgnM
  by_cases h : x / 9223372036854775808 = 1
  · rw [if_pos h]; decide
  · rw [if_neg h]; decide
/-- The words past the first are the sign's. -/
theorem one_at {xs : List Int} (hw : Words xs) (h : oneOk xs = true) (j : Nat) (hj : j < xs.length) (h1 : 1 ≤ j) : xs[j]?.getD 0 = sgnM (xs[0]?.getD 0) := by
  have := of_decide_eq_true h j hj h1
  rw [this, sgnW_eq (hw 0)]
theorem top_of {xs : List Int} (hw : Words xs) (h : oneOk xs = true) (n : Nat) (hn : 1 ≤ n) (hx : n = xs.length) : sgnM (xs[n - 1]?.getD 0) = sgnM (xs[0]?.getD 0) := by
  by_cases e : n = 1
  · subst e; rfl
  · rw [one_at hw h (n - 1) (by omega) (by omega), sgnM_sgnM]
theorem low_of {xs ys : List Int} (hx : Words xs) (hy : Words ys) (ox : oneOk xs = true) (oy : oneOk ys = true) (hs : sgnM (xs[0]?.getD 0) = sgnM (ys[0]?.getD 0)) :
    ∀ k, k + 1 ≤ xs.length → k + 1 ≤ ys.length → cmpLow xs ys (k + 1) = cmpLow xs ys 1
  | 0, _, _ => rfl
  | k + 1, h1, h2 => by
    rw [cmpLow, if_pos (by rw [one_at hx ox (k + 1) (by omega) (by omega), one_at hy oy (k + 1) (by omega) (by omega), hs]), low_of hx hy ox oy hs k (by omega) (by omega)]
/-- The order of two numbers, as the law reckons it. -/
def want (a b : Int) : Int := if a < b then -1 else if b < a then 1 else 0
theorem agree {xs ys : List Int} (hwx : Words xs) (hwy : Words ys) (ox : oneOk xs = true) (oy : oneOk ys = true) (n : Nat) (hn : 1 ≤ n) (hx : n = xs.length) (hy : n = ys.length) :
    cmpOut xs ys (n - 1) = want (oneV xs) (oneV ys) := by
  have tx := top_of hwx ox n hn hx
  have ty := top_of hwy oy n hn hy
  rw [cmpOut_eq hwx hwy, tx, ty, oneV, oneV, if_pos ox, if_pos oy]
  have b1 := hwx 0
  have b2 := hwy 0
  by_cases hs : sgnM (xs[0]?.getD 0) = sgnM (ys[0]?.getD 0)
  · rw [if_pos hs, low_of hwx hwy ox oy hs (n - 1) (by omega) (by omega), cmpLow, cmpLow]
    revert hs
    generalize xs[0]?.getD 0 = x at *
    generalize ys[0]?.getD 0 = y at *
    intro hs
    clear tx ty
    have cx : (sgnM x = 18446744073709551615 ∧ x / 9223372036854775808 = 1) ∨ (sgnM x = 0 ∧ ¬ x / 9223372036854775808 = 1) := by unfold sgnM; split <;> simp [*]
    have cy : (sgnM y = 18446744073709551615 ∧ y / 9223372036854775808 = 1) ∨ (sgnM y = 0 ∧ ¬ y / 9223372036854775808 = 1) := by unfold sgnM; split <;> simp [*]
    unfold want wrap64
    repeat' split
    all_goals omega
  · rw [if_neg hs]
    revert hs
    generalize xs[0]?.getD 0 = x at *
    generalize ys[0]?.getD 0 = y at *
    intro hs
    clear tx ty
    have cx : (sgnM x = 18446744073709551615 ∧ x / 9223372036854775808 = 1) ∨ (sgnM x = 0 ∧ ¬ x / 9223372036854775808 = 1) := by unfold sgnM; split <;> simp [*]
    have cy : (sgnM y = 18446744073709551615 ∧ y / 9223372036854775808 = 1) ∨ (sgnM y = 0 ∧ ¬ y / 9223372036854775808 = 1) := by unfold sgnM; split <;> simp [*]
    unfold want wrap64
    repeat' split
    all_goals omega

/-! ### WHAT 'oneWord' ACCEPTS LIES BETWEEN THE LEAST AND THE GREATEST int64, AND NOTHING ELSE DOES -/
def lo (n : Nat) : List Int := signExt (-9223372036854775808) n
def hi (n : Nat) : List Int := signExt 9223372036854775807 n
theorem signExt_len (v : Int) (n : Nat) : (signExt v n).length = n := by simp [signExt]
theorem signExt_zero (v : Int) (n : Nat) (hn : 1 ≤ n) : (signExt v n)[0]?.getD 0 = IntKind.u64.wrap v := by
  unfold signExt
  rw [List.getElem?_set_self (by simp; omega)]
  rfl
theorem signExt_rest (v : Int) (n j : Nat) (hj : j < n) (h1 : 1 ≤ j) : (signExt v n)[j]?.getD 0 = fillOf v := by
  unfold signExt
  rw [List.getElem?_set_ne (by omega)]
  simp [hj]
theorem wrap_word (v : Int) : 0 ≤ IntKind.u64.wrap v ∧ IntKind.u64.wrap v < 18446744073709551616 := by rw [IntKind.wrap_u64]; omega
theorem fillOf_word (v : Int) : 0 ≤ fillOf v ∧ fillOf v < 18446744073709551616 := by unfold fillOf; split <;> decide
theorem signExt_words (v : Int) (n : Nat) : Words (signExt v n) := by
  intro j
  by_cases hj : j < n
  · by_cases h0 : j = 0
    · subst h0; rw [signExt_zero v n (by omega)]; exact wrap_word v
    · rw [signExt_rest v n j hj (by omega)]; exact fillOf_word v
  · rw [List.getElem?_eq_none (by rw [signExt_len]; omega)]
    simp
theorem lo_zero (n : Nat) (hn : 1 ≤ n) : (lo n)[0]?.getD 0 = 9223372036854775808 := by rw [lo, signExt_zero _ n hn, IntKind.wrap_u64]; omega
theorem lo_rest (n j : Nat) (hj : j < n) (h1 : 1 ≤ j) : (lo n)[j]?.getD 0 = 18446744073709551615 := by rw [lo, signExt_rest _ n j hj h1, fillOf, if_pos (by omega)]
theorem hi_zero (n : Nat) (hn : 1 ≤ n) : (hi n)[0]?.getD 0 = 9223372036854775807 := by rw [hi, signExt_zero _ n hn, IntKind.wrap_u64]; omega
theorem hi_rest (n j : Nat) (hj : j < n) (h1 : 1 ≤ j) : (hi n)[j]?.getD 0 = 0 := by rw [hi, signExt_rest _ n j hj h1, fillOf, if_neg (by omega)]

/-- The words from 1 to k - 1 are all f. -/
def Rest (xs : List Int) (k : Nat) (f : Int) : Prop := ∀ j, 1 ≤ j → j < k → xs[j]?.getD 0 = f
theorem rest_succ {xs : List Int} {k : Nat} {f : Int} (hk : 1 ≤ k) : Rest xs (k + 1) f ↔ Rest xs k f ∧ xs[k]?.getD 0 = f := by
  constructor
  · intro h
    exact ⟨fun j h1 h2 => h j h1 (by omega), h k hk (by omega)⟩
  · rintro ⟨h, e⟩ j h1 h2
    by_cases hj : j = k
    · subst hj; exact e
    · exact h j h1 (by omega)
theorem low_lo {xs : List Int} (hw : Words xs) (n : Nat) : ∀ k, k + 1 ≤ n → (0 ≤ cmpLow xs (lo n) (k + 1) ↔ Rest xs (k + 1) 18446744073709551615 ∧ (9223372036854775808 : Int) ≤ xs[0]?.getD 0)
  | 0, h => by
    rw [cmpLow, cmpLow, lo_zero n h]
    have h1 : Rest xs (0 + 1) 18446744073709551615 := fun j a b => by omega
    generalize xs[0]?.getD 0 = x at *
    simp only [h1, true_and]
    repeat' split
    all_goals omega
  | k + 1, h => by
    have ih := low_lo hw n k (by omega)
    have hb := hw (k + 1)
    rw [cmpLow, lo_rest n (k + 1) (by omega) (by omega), rest_succ (by omega)]
    by_cases e : xs[k + 1]?.getD 0 = 18446744073709551615
    · rw [if_pos e, ih]
      simp [e]
    · rw [if_neg e, if_pos (by omega)]
      simp [e]
theorem low_hi {xs : List Int} (hw : Words xs) (n : Nat) : ∀ k, k + 1 ≤ n → (cmpLow xs (hi n) (k + 1) ≤ 0 ↔ Rest xs (k + 1) 0 ∧ xs[0]?.getD 0 < 9223372036854775808)
  | 0, h => by
    rw [cmpLow, cmpLow, hi_zero n h]
    have h1 : Rest xs (0 + 1) 0 := fun j a b => by omega
    generalize xs[0]?.getD 0 = x at *
    simp only [h1, true_and]
    repeat' split
    all_goals omega
  | k + 1, h => by
    have ih := low_hi hw n k (by omega)
    have hb := hw (k + 1)
    rw [cmpLow, hi_rest n (k + 1) (by omega) (by omega), rest_succ (by omega)]
    by_cases e : xs[k + 1]?.getD 0 = 0
    · rw [if_pos e, ih]
      simp [e]
    · rw [if_neg e, if_neg (by omega)]
      simp [e]
theorem sgnM_cases {x : Int} (h : 0 ≤ x ∧ x < 18446744073709551616) : (sgnM x = 18446744073709551615 ∧ 9223372036854775808 ≤ x) ∨ (sgnM x = 0 ∧ x < 9223372036854775808) := by
  unfold sgnM
  split
  · exact .inl ⟨rfl, by omega⟩
  · exact .inr ⟨rfl, by omega⟩
theorem sgn_lo (n : Nat) (hn : 1 ≤ n) : sgnM ((lo n)[n - 1]?.getD 0) = 18446744073709551615 := by
  by_cases e : n = 1
  · subst e; rw [lo_zero 1 hn]; decide
  · rw [lo_rest n (n - 1) (by omega) (by omega)]; decide
theorem sgn_hi (n : Nat) (hn : 1 ≤ n) : sgnM ((hi n)[n - 1]?.getD 0) = 0 := by
  by_cases e : n = 1
  · subst e; rw [hi_zero 1 hn]; decide
  · rw [hi_rest n (n - 1) (by omega) (by omega)]; decide
theorem ok_iff {xs : List Int} (hw : Words xs) (n : Nat) (hx : n = xs.length) : oneOk xs = true ↔ Rest xs n (sgnM (xs[0]?.getD 0)) := by
  unfold oneOk
  rw [decide_eq_true_iff, sgnW_eq (hw 0), hx]
  exact ⟨fun h j a b => h j b a, fun h j a b => h j b a⟩
theorem exact_iff {xs : List Int} (hw : Words xs) (n : Nat) (hn : 1 ≤ n) (hx : n = xs.length) :
    oneOk xs = true ↔ 0 ≤ cmpOut xs (lo n) (n - 1) ∧ cmpOut xs (hi n) (n - 1) ≤ 0 := by
  have wl : Words (lo n) := signExt_words _ _
  have wh : Words (hi n) := signExt_words _ _
  have ll := low_lo hw n (n - 1) (by omega)
  have lh := low_hi hw n (n - 1) (by omega)
  rw [show n - 1 + 1 = n from by omega] at ll lh
  rw [cmpOut_eq hw wl, cmpOut_eq hw wh, sgn_lo n hn, sgn_hi n hn, show n - 1 + 1 = n from by omega]
  have top : Rest xs n (sgnM (xs[0]?.getD 0)) → sgnM (xs[n - 1]?.getD 0) = sgnM (xs[0]?.getD 0) := fun h => top_of hw ((ok_iff hw n hx).2 h) n hn hx
  rw [ok_iff hw n hx]
  rcases sgnM_cases (hw (n - 1)) with ⟨e1, h1⟩ | ⟨e1, h1⟩
  · rw [e1] at top
    rw [e1, if_pos rfl, ll, if_neg (by decide), if_neg (by decide)]
    constructor
    · intro h
      have h2 := top h
      rw [← h2] at h
      rcases sgnM_cases (hw 0) with ⟨e2, h3⟩ | ⟨e2, h3⟩
      · exact ⟨⟨h, h3⟩, by decide⟩
      · rw [e2] at h2; cases h2
    · rintro ⟨⟨h, h2⟩, _⟩
      rcases sgnM_cases (hw 0) with ⟨e2, h3⟩ | ⟨e2, h3⟩
      · rw [e2]; exact h
      · omega
  · rw [e1] at top
    rw [e1, if_neg (by decide), if_pos rfl, if_pos rfl, lh]
    constructor
    · intro h
      have h2 := top h
      rw [← h2] at h
      rcases sgnM_cases (hw 0) with ⟨e2, h3⟩ | ⟨e2, h3⟩
      · rw [e2] at h2; cases h2
      · exact ⟨by decide, ⟨h, h3⟩⟩
    · rintro ⟨_, ⟨h, h2⟩⟩
      rcases sgnM_cases (hw 0) with ⟨e2, h3⟩ | ⟨e2, h3⟩
      · omega
      · rw [e2]; exact h
/-- What is accepted gives back the very words. -/
theorem back_words {xs : List Int} (hw : Words xs) (n : Nat) (hn : 1 ≤ n) (hx : n = xs.length) (h : oneOk xs = true) : signExt (oneV xs) n = xs := by
  have hb := hw 0
  have hr := (ok_iff hw n hx).1 h
  rw [oneV, if_pos h]
  refine same_eq (n := n) ?_ (signExt_len _ _).symm hx
  intro j hj
  by_cases h0 : j = 0
  · subst h0
    rw [signExt_zero _ n hn, IntKind.wrap_u64]
    unfold wrap64
    generalize xs[0]?.getD 0 = x at *
    omega
  · rw [signExt_rest _ n j hj (by omega), hr j (by omega) hj]
    unfold fillOf sgnM wrap64
    generalize xs[0]?.getD 0 = x at *
    repeat' split
    all_goals omega
end Go.Proofs.Qxb6602480a
