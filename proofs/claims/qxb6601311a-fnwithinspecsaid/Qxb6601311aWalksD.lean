/-
  THE WALKS, D: 'strSlashed' (13), 'bytesSlashed' (14), 'slashPrefixed' (9); the plain law.
-/
import Derived.Test.Qxb6601311aWalksC
namespace Go.Proofs.Qxb6601311a
open Go.RowKit
set_option linter.unusedVariables false

/-- The i-th byte of l and a slash behind it. -/
def slashAt (l : List UInt8) (i : Nat) : UInt8 := l[i]?.getD 47
/-- What 'slashPrefixed' answers. -/
def slashB (s t : List UInt8) : Bool := decide (t.length ≤ s.length ∧ ∀ i, i ≤ t.length → slashAt s i = slashAt t i)
/-- The first k bytes agree. -/
def SameTo (s t : List UInt8) (k : Nat) : Prop := ∀ i, i < k → slashAt s i = slashAt t i

theorem slashAt_lt {s : ByteArray} {i : Nat} (h : i < s.size) : slashAt s.data.toList i = s[i] := by
  unfold slashAt
  rw [List.getElem?_eq_getElem (by rw [size_data]; exact h)]
  rfl
theorem slashAt_ge {l : List UInt8} {i : Nat} (h : l.length ≤ i) : slashAt l i = 47 := by
  unfold slashAt
  rw [List.getElem?_eq_none h]
  rfl

/-- THE PLAIN LAW: 'within' in its closed form. -/
theorem within_slash {s t : List UInt8} (ht : t ≠ []) : withinB s t = slashB s t := by
  unfold withinB slashB
  congr 1
  apply propext
  constructor
  · rintro (h | ⟨h1, h2, h3⟩)
    · exact absurd h ht
    · refine ⟨h1, fun i hi => ?_⟩
      by_cases hlt : i < t.length
      · unfold slashAt
        rw [← h2, List.getElem?_take_of_lt hlt]
      · have hi' : i = t.length := by omega
        subst hi'
        rw [slashAt_ge (l := t) (Nat.le_refl _)]
        by_cases he : s.length = t.length
        · exact slashAt_ge (by omega)
        · rcases h3 with h3 | h3
          · exact absurd h3 he
          · have hlt' : t.length < s.length := by omega
            rw [List.getElem?_eq_getElem hlt'] at h3
            unfold slashAt
            rw [List.getElem?_eq_getElem hlt']
            exact h3
  · rintro ⟨h1, h2⟩
    refine .inr ⟨h1, ?_, ?_⟩
    · apply List.ext_getElem (by simp; omega)
      intro i hi1 hi2
      have := h2 i (by omega)
      unfold slashAt at this
      rw [List.getElem?_eq_getElem hi2, List.getElem?_eq_getElem (l := s) (by omega)] at this
      simpa using this
    · by_cases he : s.length = t.length
      · exact .inl he
      · have hlt' : t.length < s.length := by omega
        have := h2 t.length (Nat.le_refl _)
        rw [slashAt_ge (l := t) (Nat.le_refl _)] at this
        unfold slashAt at this
        rw [List.getElem?_eq_getElem hlt'] at this
        rw [List.getElem?_eq_getElem hlt']
        exact .inr this

set_option maxHeartbeats 400000 in
/-- 'strSlashed'. -/
theorem str_any (s : ByteArray) (i : Nat) (w : World) (hs : s.size ≤ 1048576) (hi : i ≤ s.size) :
    Calls Try.prog 13 #[.string s, .int .i64 i] w fun e w' => e = .returned (.int .u8 ((slashAt s.data.toList i).toNat : Int)) ∧ w' = w := by
  by_cases h : i < s.size
  · rw [slashAt_lt h]
    go_enter Try.func13, Try.ntmps13
    go_wp2
    go_ret
    exact ⟨rfl, rfl⟩
  · rw [slashAt_ge (by rw [size_data]; omega)]
    go_enter Try.func13, Try.ntmps13
    go_wp2
    go_ret
    exact ⟨rfl, rfl⟩

set_option maxHeartbeats 400000 in
/-- 'bytesSlashed'. -/
theorem bytes_any (a : Option Addr) (n c : Nat) (l : List UInt8) (i : Nat) (w : World) (hn : n ≤ 1048576) (hi : i ≤ n) (ht : Has w a n l) :
    Calls Try.prog 14 #[.slice a n c, .int .i64 i] w fun e w' => e = .returned (.int .u8 ((slashAt l i).toNat : Int)) ∧ w' = w := by
  obtain ⟨hl, h⟩ := ht
  by_cases hlt : i < n
  · obtain ⟨b, off, rfl, hb, hr⟩ := h.resolve_left (by omega)
    have hc := hr i (by omega)
    have e : slashAt l i = l[i]'(by omega) := by unfold slashAt; rw [List.getElem?_eq_getElem (by omega)]; rfl
    rw [← e] at hc
    clear e hr hl h
    go_enter Try.func14, Try.ntmps14
    go_wp2
    go_ret
    exact ⟨rfl, rfl⟩
  · rw [slashAt_ge (by omega)]
    clear hl h
    go_enter Try.func14, Try.ntmps14
    go_wp2
    go_ret
    exact ⟨rfl, rfl⟩

theorem slash_no {s t : List UInt8} {k : Nat} (hk : k ≤ t.length) (h : (((slashAt s k).toNat : Int) != ((slashAt t k).toNat : Int)) = true) : slashB s t = false := by
  refine decide_eq_false ?_
  rintro ⟨_, h2⟩
  rw [h2 k hk] at h
  simp at h
theorem same_succ {s t : List UInt8} {k : Nat} (hs : SameTo s t k) (h : (((slashAt s k).toNat : Int) != ((slashAt t k).toNat : Int)) = false) : SameTo s t (k + 1) := by
  intro i hi
  by_cases e : i = k
  · subst e
    have h' : ((slashAt s i).toNat : Int) = ((slashAt t i).toNat : Int) := by simpa using h
    exact UInt8.toNat_inj.1 (by omega)
  · exact hs i (by omega)
theorem slash_yes {s t : List UInt8} {k : Nat} (hle : t.length ≤ s.length) (hs : SameTo s t k) (hk : t.length < k) : slashB s t = true :=
  decide_eq_true ⟨hle, fun i hi => hs i (by omega)⟩

set_option maxHeartbeats 800000 in
/-- 'slashPrefixed'. -/
theorem prefixed_any (s : ByteArray) (a : Option Addr) (n c : Nat) (l : List UInt8) (w : World) (hs : s.size ≤ 1048576) (hn : n ≤ 1048576) (ht : Has w a n l) :
    Calls Try.prog 9 #[.string s, .slice a n c] w fun e w' => e = .returned (.bool (slashB s.data.toList l)) ∧ w' = w := by
  have HT : Hid (Has w a n l) := ht
  have HL : Hid (n = l.length) := ht.1
  clear ht
  by_cases hlt : s.size < n
  · have e : slashB s.data.toList l = false := decide_eq_false (by rintro ⟨h, _⟩; rw [size_data, ← HL.out] at h; omega)
    rw [e]
    go_enter Try.func9, Try.ntmps9
    go_wp2
    go_ret
    exact ⟨rfl, rfl⟩
  · go_enter Try.func9, Try.ntmps9
    go_wp2
    go_loop [5] (fun i => ∃ k : Nat, k ≤ n + 1 ∧ i = .int .i64 k ∧ SameTo s.data.toList l k) (fun i => n + 1 - (intOf i).toNat)
    case atStart => exact ⟨0, by omega, rfl, fun i h => by omega⟩
    case round =>
      obtain ⟨k, hk, rfl, hsm⟩ := hrel
      by_cases hkn : k ≤ n
      · go_wp2_with fail
        refine (str_any s k _ hs (by omega)).mono ?_
        rintro e w1 ⟨rfl, rfl⟩
        go_wp2_with fail
        refine (bytes_any a n c l k _ hn hkn HT.out).mono ?_
        rintro e w2 ⟨rfl, rfl⟩
        go_wp2
        · go_ret
          exact ⟨by rw [slash_no (by rw [← HL.out]; exact hkn) (by assumption)]; rfl, rfl⟩
        · go_round
          case rel => exact ⟨k + 1, by omega, by go_num, same_succ hsm (by assumption)⟩
          case measure => simp [intOf]; omega
      · go_wp2
        go_ret
        exact ⟨by rw [slash_yes (by rw [size_data, ← HL.out]; omega) hsm (by rw [← HL.out]; omega)]; rfl, rfl⟩
end Go.Proofs.Qxb6601311a
