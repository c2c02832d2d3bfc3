/-
  THE WALKS, F: 'lwSignWord' (23), 'lwCmpModel' (15).
-/
import Derived.Test.Qxb6602480aPlainE
namespace Go.Proofs.Qxb6602480a
open Go.RowKit
set_option linter.unusedVariables false

set_option maxHeartbeats 400000 in
/-- 'lwSignWord'. -/
theorem signWord_any (x : Int) (w : World) (h1 : 0 ≤ x) (h2 : x < 18446744073709551616) :
    Calls Try.prog 23 #[.int .u64 x] w fun e w' => e = .returned (.int .u64 (sgnM x)) ∧ w' = w := by
  unfold sgnM
  by_cases h : x / 9223372036854775808 = 1
  · go_enter Try.func23, Try.ntmps23
    go_wp2
    go_ret
    exact ⟨rfl, rfl⟩
  · go_enter Try.func23, Try.ntmps23
    go_wp2
    go_ret
    exact ⟨rfl, rfl⟩

theorem sgnM_word (x : Int) : 0 ≤ sgnM x ∧ sgnM x < 18446744073709551616 := by unfold sgnM; split <;> decide

/-! ### One round's arithmetic -/
theorem or11 : bits .or .u64 1 1 = 1 := by decide
theorem or10 : bits .or .u64 1 0 = 1 := by decide
theorem or01 : bits .or .u64 0 1 = 1 := by decide
theorem or00 : bits .or .u64 0 0 = 0 := by decide
theorem wrap_wrap (a b : Int) : IntKind.u64.wrap (IntKind.u64.wrap a - b) = IntKind.u64.wrap (a - b) := by
  rw [IntKind.wrap_u64, IntKind.wrap_u64, IntKind.wrap_u64]; omega

/-- A round: the borrow and the word that come out. -/
def Round (x y bw d bw' : Int) : Prop := x - y - bw = d - 18446744073709551616 * bw' ∧ 0 ≤ d ∧ d < 18446744073709551616
theorem round_one {x y bw : Int} (hx0 : 0 ≤ x) (hx1 : x < 18446744073709551616) (hy0 : 0 ≤ y) (hy1 : y < 18446744073709551616) (hb0 : 0 ≤ bw) (hb1 : bw ≤ 1) (h : x - y < bw) : Round x y bw (IntKind.u64.wrap (x - y - bw)) 1 := by
  unfold Round; rw [IntKind.wrap_u64]; omega
theorem round_two {x y bw : Int} (hx0 : 0 ≤ x) (hx1 : x < 18446744073709551616) (hy0 : 0 ≤ y) (hy1 : y < 18446744073709551616) (hb0 : 0 ≤ bw) (hb1 : bw ≤ 1) (h : x < y) : Round x y bw (IntKind.u64.wrap (IntKind.u64.wrap (x - y) - bw)) 1 := by
  rw [wrap_wrap]; exact round_one hx0 hx1 hy0 hy1 hb0 hb1 (by omega)
theorem round_nil {x y bw : Int} (hx0 : 0 ≤ x) (hx1 : x < 18446744073709551616) (hy0 : 0 ≤ y) (hy1 : y < 18446744073709551616) (hb0 : 0 ≤ bw) (hb1 : bw ≤ 1) (h : bw ≤ x - y) : Round x y bw (IntKind.u64.wrap (x - y - bw)) 0 := by
  unfold Round; rw [IntKind.wrap_u64]; omega
theorem z_no {z : Bool} {d : Int} (h : (d != 0) = true) : (false = true ↔ z = true ∧ d = 0) := by simp at h; simp [h]
theorem z_yes {z : Bool} {d : Int} (h : (d != 0) = false) : (z = true ↔ z = true ∧ d = 0) := by simp at h; simp [h]
theorem z_no' {z : Bool} {x y bw : Int} (h : (x - y - bw != 0) = true) (hx1 : x < 18446744073709551616) (hy0 : 0 ≤ y) (hb0 : 0 ≤ bw) (hb : bw ≤ x - y) : (false = true ↔ z = true ∧ IntKind.u64.wrap (x - y - bw) = 0) := by
  have : IntKind.u64.wrap (x - y - bw) = x - y - bw := by rw [IntKind.wrap_u64]; omega
  rw [this]; exact z_no h
theorem z_yes' {z : Bool} {x y bw : Int} (h : (x - y - bw != 0) = false) : (z = true ↔ z = true ∧ IntKind.u64.wrap (x - y - bw) = 0) := by
  have : x - y - bw = 0 := by simpa using h
  rw [this]; simp [IntKind.wrap_u64]

/-- The relation of the loop, of k rounds. -/
def Rel (xs ys : List Int) (t k : Nat) (bw d : Int) (z : Bool) : Prop := (k ≤ t + 1 → Inv xs ys k bw z) ∧ (t + 1 < k → Fin1 xs ys (t + 1) d z)
theorem rel_zero (xs ys : List Int) (t : Nat) : Rel xs ys t 0 0 0 true := ⟨fun _ => inv_zero xs ys, fun h => by omega⟩
theorem rel_step {xs ys : List Int} {t k : Nat} {bw d0 : Int} {z : Bool} (h : Rel xs ys t k bw d0 z) (hk : k < t + 1) {x y d bw' : Int} {z' : Bool} (hx : x = xs.getD k 0) (hy : y = ys.getD k 0)
    (hr : Round x y bw d bw') (hz : z' = true ↔ z = true ∧ d = 0) : Rel xs ys t (k + 1) bw' d z' :=
  ⟨fun _ => inv_step (h.1 (by omega)) hx hy hr.1 hr.2.1 hr.2.2 hz, fun h => by omega⟩
theorem rel_last {xs ys : List Int} (hwx : Words xs) (hwy : Words ys) {t k : Nat} {bw d0 : Int} {z : Bool} (h : Rel xs ys t k bw d0 z) (hk : k = t + 1) (hb0 : 0 ≤ bw) (hb1 : bw ≤ 1) {x y d bw' : Int} {z' : Bool} (hx : x = sgnM (xs.getD t 0)) (hy : y = sgnM (ys.getD t 0))
    (hr : Round x y bw d bw') (hz : z' = true ↔ z = true ∧ d = 0) : Rel xs ys t (k + 1) bw' d z' := by
  subst hk
  exact ⟨fun h => by omega, fun _ => fin_step hwx hwy (by omega) (h.1 (by omega)) hb0 hb1 hx hy hr.1 hr.2.1 hr.2.2 hz⟩

set_option maxHeartbeats 1600000 in
/-- 'lwCmpModel'. -/
theorem model_any (b1 o1 c1 b2 o2 c2 t : Nat) (xs ys : List Int) (w : World) (hn' : t ≤ 65536) (hx : xs.length = t + 1) (hy : ys.length = t + 1) (hr1 : Reads w b1 o1 xs) (hr2 : Reads w b2 o2 ys)
    (hw1 : Words xs) (hw2 : Words ys) :
    Calls Try.prog 15 #[.slice (some ⟨b1, o1, none⟩) (t + 1) c1, .slice (some ⟨b2, o2, none⟩) (t + 1) c2] w fun e w' => e = .returned (.int .i64 (cmpOut xs ys t)) ∧ w' = w := by
  have HX : Hid (xs.length = t + 1) := hx
  have HY : Hid (ys.length = t + 1) := hy
  have o11 := or11
  have o10 := or10
  have o01 := or01
  have o00 := or00
  clear hx hy
  go_enter Try.func15, Try.ntmps15
  go_wp2
  go_loop [6, 7, 8, 9] (fun bs zs ts js => ∃ (k : Nat) (bw d : Int) (z : Bool), k ≤ t + 2 ∧ bs = .int .u64 bw ∧ zs = .bool z ∧ ts = .int .u64 d ∧ js = .int .i64 k ∧ 0 ≤ bw ∧ bw ≤ 1 ∧ Rel xs ys t k bw d z) (fun _ _ _ j => t + 2 - (intOf j).toNat)
  case atStart => exact ⟨0, 0, 0, true, by omega, rfl, rfl, rfl, rfl, by omega, by omega, rel_zero _ _ _⟩
  case round =>
    obtain ⟨k, bw, d, z, hk, rfl, rfl, rfl, rfl, hb0, hb1, hinv⟩ := hrel
    by_cases hlt : k < t + 1
    · have hc1 := hr1 k (by have := HX.out; omega)
      have hc2 := hr2 k (by have := HY.out; omega)
      obtain ⟨x, hxe⟩ : ∃ x, x = xs.getD k 0 := ⟨_, rfl⟩
      obtain ⟨y, hye⟩ : ∃ y, y = ys.getD k 0 := ⟨_, rfl⟩
      rw [← hxe] at hc1
      rw [← hye] at hc2
      have HXE : Hid (x = xs.getD k 0) := hxe
      have HYE : Hid (y = ys.getD k 0) := hye
      have hxb : 0 ≤ x ∧ x < 18446744073709551616 := by rw [hxe]; exact hw1 k
      have hyb : 0 ≤ y ∧ y < 18446744073709551616 := by rw [hye]; exact hw2 k
      obtain ⟨hx0, hx1⟩ := hxb
      obtain ⟨hy0, hy1⟩ := hyb
      clear hxe hye
      go_wp2
      all_goals
        go_round
        case rel =>
          refine ⟨k + 1, _, _, _, by omega, rfl, rfl, rfl, by go_num, by decide, by decide, rel_step hinv hlt HXE.out HYE.out ?_ ?_⟩
          · first | (refine round_two hx0 hx1 hy0 hy1 hb0 hb1 ?_; assumption) | (refine round_one hx0 hx1 hy0 hy1 hb0 hb1 ?_; assumption) | (refine round_nil hx0 hx1 hy0 hy1 hb0 hb1 ?_; assumption)
          · first | (refine z_no ?_; assumption) | (refine z_yes ?_; assumption) | (refine z_yes' ?_; assumption) | (refine z_no' ?_ hx1 hy0 hb0 ?_ <;> assumption)
        case measure => simp [intOf]; omega
    · by_cases hkt : k = t + 1
      · have HK : Hid (k = t + 1) := hkt
        have hk1 : k ≤ t + 1 := by omega
        have hc1 := hr1 t (by have := HX.out; omega)
        have hc2 := hr2 t (by have := HY.out; omega)
        obtain ⟨p, hpe⟩ : ∃ x, x = xs.getD t 0 := ⟨_, rfl⟩
        obtain ⟨q, hqe⟩ : ∃ y, y = ys.getD t 0 := ⟨_, rfl⟩
        rw [← hpe] at hc1
        rw [← hqe] at hc2
        have hpb : 0 ≤ p ∧ p < 18446744073709551616 := by rw [hpe]; exact hw1 t
        have hqb : 0 ≤ q ∧ q < 18446744073709551616 := by rw [hqe]; exact hw2 t
        obtain ⟨x, hxe⟩ : ∃ x, x = sgnM p := ⟨_, rfl⟩
        obtain ⟨y, hye⟩ : ∃ y, y = sgnM q := ⟨_, rfl⟩
        have S1 : Hid (∀ w, Calls Try.prog 23 #[.int .u64 p] w fun e w' => e = .returned (.int .u64 x) ∧ w' = w) := fun w => by rw [hxe]; exact signWord_any p w hpb.1 hpb.2
        have S2 : Hid (∀ w, Calls Try.prog 23 #[.int .u64 q] w fun e w' => e = .returned (.int .u64 y) ∧ w' = w) := fun w => by rw [hye]; exact signWord_any q w hqb.1 hqb.2
        have hxb : 0 ≤ x ∧ x < 18446744073709551616 := by rw [hxe]; exact sgnM_word _
        have hyb : 0 ≤ y ∧ y < 18446744073709551616 := by rw [hye]; exact sgnM_word _
        have HXE : Hid (x = sgnM (xs.getD t 0)) := by rw [← hpe]; exact hxe
        have HYE : Hid (y = sgnM (ys.getD t 0)) := by rw [← hqe]; exact hye
        obtain ⟨hx0, hx1⟩ := hxb
        obtain ⟨hy0, hy1⟩ := hyb
        clear hxe hye hpe hqe hpb hqb hkt
        go_wp2_with fail
        refine (S1.out _).mono ?_
        rintro e w1 ⟨rfl, rfl⟩
        go_wp2_with fail
        refine (S2.out _).mono ?_
        rintro e w2 ⟨rfl, rfl⟩
        go_wp2
        all_goals
          go_round
          case rel =>
            refine ⟨k + 1, _, _, _, by omega, rfl, rfl, rfl, by go_num, by decide, by decide, rel_last hw1 hw2 hinv HK.out hb0 hb1 HXE.out HYE.out ?_ ?_⟩
            · first | (refine round_two hx0 hx1 hy0 hy1 hb0 hb1 ?_; assumption) | (refine round_one hx0 hx1 hy0 hy1 hb0 hb1 ?_; assumption) | (refine round_nil hx0 hx1 hy0 hy1 hb0 hb1 ?_; assumption)
            · first | (refine z_no ?_; assumption) | (refine z_yes ?_; assumption) | (refine z_yes' ?_; assumption) | (refine z_no' ?_ hx1 hy0 hb0 ?_ <;> assumption)
          case measure => simp [intOf]; omega
      · have hk2 : t + 1 < k := by omega
        have HF : Hid (Fin1 xs ys (t + 1) d z) := hinv.2 hk2
        cases z
        · by_cases hd : d / 9223372036854775808 = 1
          · go_wp2
            go_ret
            exact ⟨by have := HF.out; simp [Fin1, hd] at this; rw [← this]; rfl, rfl⟩
          · have hd' : (d / 9223372036854775808 == 1) = false := by simpa using hd
            have HD : Hid (¬ d / 9223372036854775808 = 1) := hd
            clear hd
            go_wp2
            go_ret
            exact ⟨by have := HF.out; simp [Fin1, HD.out] at this; rw [← this]; rfl, rfl⟩
        · go_wp2
          go_ret
          exact ⟨by have := HF.out; simp [Fin1] at this; rw [← this]; rfl, rfl⟩
end Go.Proofs.Qxb6602480a
