/-
  THE WALKS, B: 'oneWord' (29) and 'ZZoneWord' (18).
-/
import Derived.Test.Qxb6602480aWalksA
namespace Go.Proofs.Qxb6602480a
open Go.RowKit
set_option linter.unusedVariables false

/-- The word that sign-extends the word x, as 'oneWord' reckons it. -/
def sgnW (x : Int) : Int := IntKind.u64.wrap (wrap64 x / 9223372036854775808)
/-- 'oneWord' answers yes. -/
def oneOk (xs : List Int) : Bool := decide (∀ j, j < xs.length → 1 ≤ j → xs[j]?.getD 0 = sgnW (xs[0]?.getD 0))
/-- 'oneWord's number. -/
def oneV (xs : List Int) : Int := if oneOk xs = true then wrap64 (xs[0]?.getD 0) else 0
/-- The words from 1 to k are the sign's. -/
def AllTo (xs : List Int) (k : Nat) : Prop := ∀ j, 1 ≤ j → j ≤ k → xs[j]?.getD 0 = sgnW (xs[0]?.getD 0)

theorem allTo_zero (xs : List Int) : AllTo xs 0 := fun j h1 h2 => by omega
theorem allTo_succ {xs : List Int} {k : Nat} (h : AllTo xs k) (e : (xs[1 + k]?.getD 0 != IntKind.u64.wrap (wrap64 (xs[0]?.getD 0) / 9223372036854775808)) = false) : AllTo xs (k + 1) := by
  intro j h1 h2
  by_cases hj : j = k + 1
  · subst hj
    have e' : xs[1 + k]?.getD 0 = IntKind.u64.wrap (wrap64 (xs[0]?.getD 0) / 9223372036854775808) := by simpa using e
    rw [Nat.add_comm k 1]
    exact e'
  · exact h j h1 (by omega)
theorem allTo_ok {xs : List Int} {k : Nat} (h : AllTo xs k) (hk : xs.length ≤ k + 1) : oneOk xs = true := decide_eq_true fun j h1 h2 => h j h2 (by omega)
theorem allTo_no {xs : List Int} {k : Nat} (e : (xs[1 + k]?.getD 0 != IntKind.u64.wrap (wrap64 (xs[0]?.getD 0) / 9223372036854775808)) = true) (hk : k + 1 < xs.length) : oneOk xs = false := by
  refine decide_eq_false fun h => ?_
  have e' : ¬ xs[1 + k]?.getD 0 = IntKind.u64.wrap (wrap64 (xs[0]?.getD 0) / 9223372036854775808) := by simpa using e
  exact e' (h (1 + k) (by omega) (by omega))

set_option maxHeartbeats 400000 in
theorem oneWord_one (b off : Nat) (x : Int) (w : World) (hr : w.cell? ⟨b, off, none⟩ = some (.int .u64 x)) :
    Calls Try.prog 29 #[.slice (some ⟨b, off, none⟩) 1 1] w fun e w' => e = .returned (.tuple #[.int .i64 (wrap64 x), .bool true]) ∧ w' = w := by
  go_enter Try.func29, Try.ntmps29
  go_wp2
  go_loop [14] (fun i => i = .int .i64 0) (fun _ => 0)
  case atStart => rfl
  case round =>
    subst hrel
    go_wp2
    go_ret2
    exact ⟨rfl, rfl⟩

set_option maxHeartbeats 400000 in
theorem oneWord_more (b off n c : Nat) (xs : List Int) (w : World) (hn : 1 ≤ n) (hn' : n ≤ 65537) (hx : n = xs.length) (hc : n ≤ c) (hc1 : ¬ c = 1) (hr : Reads w b off xs) :
    Calls Try.prog 29 #[.slice (some ⟨b, off, none⟩) n c] w fun e w' => e = .returned (.tuple #[.int .i64 (oneV xs), .bool (oneOk xs)]) ∧ w' = w := by
  have HX : Hid (n = xs.length) := hx
  have h0 := hr 0 (by omega)
  simp only [Nat.add_zero] at h0
  clear hx
  go_enter Try.func29, Try.ntmps29
  go_wp2
  go_loop [14] (fun i => ∃ k : Nat, k + 1 ≤ n ∧ i = .int .i64 k ∧ AllTo xs k) (fun i => n - (intOf i).toNat)
  case atStart => exact ⟨0, by omega, rfl, allTo_zero _⟩
  case round =>
    obtain ⟨k, hk, rfl, hall⟩ := hrel
    by_cases hlt : k + 1 < n
    · have hc := hr (1 + k) (by have := HX.out; omega)
      have hc2 : w.cell? ⟨b, off + 1 + k, none⟩ = some (.int .u64 (xs.getD (1 + k) 0)) := by rw [← hc, Nat.add_assoc]
      go_wp2
      · go_ret2
        have e := allTo_no (by assumption) (by have := HX.out; omega)
        exact ⟨by rw [oneV, e]; rfl, rfl⟩
      · go_round
        case rel => exact ⟨k + 1, by omega, by go_num, allTo_succ hall (by assumption)⟩
        case measure => simp [intOf]; omega
    · go_wp2
      go_ret2
      have e := allTo_ok hall (by have := HX.out; omega)
      exact ⟨by rw [oneV, e]; rfl, rfl⟩

/-- 'oneWord'. -/
theorem oneWord_any (b off n c : Nat) (xs : List Int) (w : World) (hn : 1 ≤ n) (hn' : n ≤ 65537) (hx : n = xs.length) (hc : n ≤ c) (hr : Reads w b off xs) :
    Calls Try.prog 29 #[.slice (some ⟨b, off, none⟩) n c] w fun e w' => e = .returned (.tuple #[.int .i64 (oneV xs), .bool (oneOk xs)]) ∧ w' = w := by
  by_cases hc1 : c = 1
  · subst hc1
    have e1 : n = 1 := by omega
    subst e1
    have h0 := hr 0 (by omega)
    have ee : oneOk xs = true := allTo_ok (allTo_zero xs) (by omega)
    simp only [Nat.add_zero] at h0
    refine (oneWord_one b off _ w h0).mono ?_
    rintro e w' ⟨rfl, rfl⟩
    exact ⟨by rw [oneV, ee]; rfl, rfl⟩
  · exact oneWord_more b off n c xs w hn hn' hx hc hc1 hr

set_option maxHeartbeats 400000 in
/-- 'ZZoneWord'. -/
theorem zzOneWord_any (b off n c : Nat) (xs : List Int) (w : World) (hn : 1 ≤ n) (hn' : n ≤ 65537) (hx : n = xs.length) (hc : n ≤ c) (hr : Reads w b off xs) :
    Calls Try.prog 18 #[.slice (some ⟨b, off, none⟩) n c] w fun e w' => e = .returned (.tuple #[.int .i64 (oneV xs), .bool (oneOk xs)]) ∧ w' = w := by
  have HX : Hid (n = xs.length) := hx
  clear hx
  go_enter Try.func18, Try.ntmps18
  go_wp2_with fail
  refine (oneWord_any b off n c xs _ hn hn' HX.out hc hr).mono ?_
  rintro e w' ⟨rfl, rfl⟩
  go_wp2
  go_ret2
  exact ⟨rfl, rfl⟩
end Go.Proofs.Qxb6602480a
