/-
  THE WALKS, D: 'Compare' (14).
-/
import Derived.Test.Qxb6602480aWalksC
namespace Go.Proofs.Qxb6602480a
open Go.RowKit
set_option linter.unusedVariables false

/-- The first k words compared as an unsigned number, from the top down. -/
def cmpLow (xs ys : List Int) : Nat → Int
  | 0 => 0
  | k + 1 => if xs[k]?.getD 0 = ys[k]?.getD 0 then cmpLow xs ys k else if xs[k]?.getD 0 < ys[k]?.getD 0 then -1 else 1
/-- The top words compared as signed numbers. -/
def cmpTop (x y : Int) : Int := if wrap64 x < wrap64 y then -1 else 1
/-- What 'Compare' answers. -/
def cmpOut (xs ys : List Int) (t : Nat) : Int := if xs[t]?.getD 0 = ys[t]?.getD 0 then cmpLow xs ys t else cmpTop (xs[t]?.getD 0) (ys[t]?.getD 0)

theorem cmpTop_lt {x y : Int} (h : wrap64 x < wrap64 y) : cmpTop x y = -1 := if_pos h
theorem cmpTop_ge {x y : Int} (h : wrap64 y ≤ wrap64 x) : cmpTop x y = 1 := if_neg (by omega)
theorem ret_i64 {a b : Int} (h : a = b) : Ending.returned (.int .i64 a) = .returned (.int .i64 b) := by rw [h]
theorem cmpLow_eq {xs ys : List Int} {k : Nat} (h : (xs[k]?.getD 0 != ys[k]?.getD 0) = false) : cmpLow xs ys (k + 1) = cmpLow xs ys k := by
  rw [cmpLow, if_pos (by simpa using h)]
theorem cmpLow_lt {xs ys : List Int} {k : Nat} (h : xs[k]?.getD 0 < ys[k]?.getD 0) : cmpLow xs ys (k + 1) = -1 := by
  rw [cmpLow, if_neg (by omega), if_pos h]
theorem cmpLow_gt {xs ys : List Int} {k : Nat} (h : (xs[k]?.getD 0 != ys[k]?.getD 0) = true) (h' : ys[k]?.getD 0 ≤ xs[k]?.getD 0) : cmpLow xs ys (k + 1) = 1 := by
  rw [cmpLow, if_neg (by simpa using h), if_neg (by omega)]

set_option maxHeartbeats 400000 in
/-- 'Compare', the top words differ. -/
theorem compare_top (b1 o1 c1 b2 o2 c2 t : Nat) (x y : Int) (w : World) (ht : t ≤ 65537) (hne : (x != y) = true) (h1 : w.cell? ⟨b1, o1 + t, none⟩ = some (.int .u64 x)) (h2 : w.cell? ⟨b2, o2 + t, none⟩ = some (.int .u64 y)) :
    Calls Try.prog 14 #[.slice (some ⟨b1, o1, none⟩) (t + 1) c1, .slice (some ⟨b2, o2, none⟩) (t + 1) c2] w fun e w' => e = .returned (.int .i64 (cmpTop x y)) ∧ ∃ m, w' = w.drewN m := by
  go_enter Try.func14, Try.ntmps14
  go_wp2
  go_quiet (fail)
  go_wp2
  go_quiet (fail)
  go_wp2
  · go_ret
    exact ⟨by rw [cmpTop_lt (by assumption)]; rfl, _, World.drewN_drewN _ _ _⟩
  · go_ret
    exact ⟨by rw [cmpTop_ge (by assumption)]; rfl, _, World.drewN_drewN _ _ _⟩

set_option maxHeartbeats 400000 in
/-- 'Compare', the top words are one. -/
theorem compare_low (b1 o1 c1 b2 o2 c2 t : Nat) (x : Int) (xs ys : List Int) (w : World) (ht : t ≤ 65537) (h1 : w.cell? ⟨b1, o1 + t, none⟩ = some (.int .u64 x)) (h2 : w.cell? ⟨b2, o2 + t, none⟩ = some (.int .u64 x))
    (hx : xs.length = t + 1) (hy : ys.length = t + 1) (hr1 : Reads w b1 o1 xs) (hr2 : Reads w b2 o2 ys) :
    Calls Try.prog 14 #[.slice (some ⟨b1, o1, none⟩) (t + 1) c1, .slice (some ⟨b2, o2, none⟩) (t + 1) c2] w fun e w' => e = .returned (.int .i64 (cmpLow xs ys t)) ∧ ∃ m, w' = w.drewN m := by
  have HX : Hid (xs.length = t + 1) := hx
  have HY : Hid (ys.length = t + 1) := hy
  clear hx hy
  go_enter Try.func14, Try.ntmps14
  go_wp2
  go_quiet (fail)
  go_wp2
  go_loopw [6] (fun j wr => ∃ k m : Nat, k ≤ t ∧ j = .int .i64 ((k : Int) - 1) ∧ Hid (cmpLow xs ys t = cmpLow xs ys k) ∧ wr = w.drewN m) (fun j _ => (intOf j + 1).toNat)
  case atStart => exact ⟨t, _, Nat.le_refl _, rfl, rfl, rfl⟩
  case round =>
    obtain ⟨k, m, hk, rfl, hsm, rfl⟩ := hrel
    clear h1 h2
    cases k with
    | zero =>
      go_wp2
      go_ret
      exact ⟨by rw [hsm.out]; rfl, _, rfl⟩
    | succ k =>
      rw [show (((k + 1 : Nat) : Int) - 1) = (k : Int) from by omega]
      have hc1 := hr1 k (by have := HX.out; omega)
      have hc2 := hr2 k (by have := HY.out; omega)
      by_cases hne : (xs[k]?.getD 0 != ys[k]?.getD 0) = true
      · have HN : Hid ((xs[k]?.getD 0 != ys[k]?.getD 0) = true) := hne
        go_wp2
        go_quiet (fail)
        go_wp2
        go_quiet (fail)
        go_wp2
        · go_ret
          exact ⟨by rw [hsm.out, cmpLow_lt (by assumption)]; rfl, _, by rw [World.drewN_drewN, World.drewN_drewN]⟩
        · go_ret
          exact ⟨by rw [hsm.out, cmpLow_gt HN.out (by assumption)]; rfl, _, by rw [World.drewN_drewN, World.drewN_drewN]⟩
      · have hne' : (xs[k]?.getD 0 != ys[k]?.getD 0) = false := by simpa using hne
        have HN : Hid ((xs[k]?.getD 0 != ys[k]?.getD 0) = false) := hne'
        clear hne
        go_wp2
        go_quiet (fail)
        go_wp2
        go_roundw
        case rel => exact ⟨k, _, by omega, rfl, hsm.out.trans (cmpLow_eq HN.out), rfl⟩
        case measure => simp [intOf]

/-- 'Compare'. -/
theorem compare_any (b1 o1 c1 b2 o2 c2 t : Nat) (xs ys : List Int) (w : World) (ht : t ≤ 65537) (hx : xs.length = t + 1) (hy : ys.length = t + 1) (hr1 : Reads w b1 o1 xs) (hr2 : Reads w b2 o2 ys) :
    Calls Try.prog 14 #[.slice (some ⟨b1, o1, none⟩) (t + 1) c1, .slice (some ⟨b2, o2, none⟩) (t + 1) c2] w fun e w' => e = .returned (.int .i64 (cmpOut xs ys t)) ∧ ∃ m, w' = w.drewN m := by
  have h1 := hr1 t (by omega)
  have h2 := hr2 t (by omega)
  unfold cmpOut
  split
  · rename_i e
    have e' : xs.getD t 0 = ys.getD t 0 := e
    exact compare_low b1 o1 c1 b2 o2 c2 t _ xs ys w ht h1 (by rw [e']; exact h2) hx hy hr1 hr2
  · rename_i e
    exact compare_top b1 o1 c1 b2 o2 c2 t _ _ w ht (by simpa using e) h1 h2
end Go.Proofs.Qxb6602480a
