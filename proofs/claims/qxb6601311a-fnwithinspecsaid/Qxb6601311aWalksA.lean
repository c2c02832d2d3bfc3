/-
  THE WALKS, A: 'within' (12), 'ZZwithin' (8).
-/
import Derived.Test.Qxb6601311aRows
import Derived.WalkKit
import Derived.WalkSpells
import Derived.WalkLawsBesides
import Derived.Deep.QuietTactic
import Derived.BigQuiet
import Derived.Laws.IdiomStrings
import Derived.Lib.Strings
namespace Go.Proofs.Qxb6601311a
open Go.RowKit
set_option linter.unusedVariables false

/-- The bytes at ⟨b, off⟩ read as l. -/
def Reads8 (w : World) (b off : Nat) (l : List UInt8) : Prop := ∀ j (hj : j < l.length), w.cell? ⟨b, off + j, none⟩ = some (.int .u8 (l[j].toNat : Int))
/-- A slice value of n bytes that reads l: of no bytes, or somewhere in memory. -/
def Has (w : World) (a : Option Addr) (n : Nat) (l : List UInt8) : Prop := n = l.length ∧ (n = 0 ∨ ∃ b off, a = some ⟨b, off, none⟩ ∧ b < w.heap.size ∧ Reads8 w b off l)

/-- What 'within' answers. -/
def withinB (s l : List UInt8) : Bool := decide (l = [] ∨ (l.length ≤ s.length ∧ s.take l.length = l ∧ (s.length = l.length ∨ s[l.length]?.getD 0 = 47)))

theorem head_data (s : ByteArray) (i : Nat) : (s.extract 0 i).data.toList = s.data.toList.take i := by rw [Lib.extract_data]; simp

set_option maxHeartbeats 400000 in
theorem within_zero (s : ByteArray) (a : Option Addr) (c : Nat) (w : World) :
    Calls Try.prog 12 #[.string s, .slice a 0 c] w fun e w' => e = .returned (.bool true) ∧ w' = w := by
  go_enter Try.func12, Try.ntmps12
  go_wp2
  go_ret
  exact ⟨rfl, rfl⟩

set_option maxHeartbeats 400000 in
theorem within_short (s : ByteArray) (a : Option Addr) (n c : Nat) (w : World) (hs : s.size ≤ maxLen) (hn : 1 ≤ n) (hlt : s.size < n) :
    Calls Try.prog 12 #[.string s, .slice a n c] w fun e w' => e = .returned (.bool false) ∧ ∃ m, w' = w.drewN m := by
  unfold maxLen at hs
  have h4 : ((n : Int) == 0) = false := by simp; omega
  have hd : decide ((s.size : Int) < (n : Int)) = true := decide_eq_true (by omega)
  go_enter Try.func12, Try.ntmps12
  go_wp2
  go_quiet (fail)
  go_wp2
  go_ret
  exact ⟨rfl, _, rfl⟩

theorem add_at (b off j : Nat) : (⟨b, off, none⟩ : Addr).add j = ⟨b, off + j, none⟩ := by unfold Addr.add; split <;> simp_all
theorem conv_back (b off n c : Nat) (l : List UInt8) (w : World) (hl : n = l.length) (hr : Reads8 w b off l) (q : Nat) :
    (convert 22 9 (.slice (some ⟨b, off, none⟩) n c)).run Try.prog (w.drewN q) = .ok (.string ⟨l.toArray⟩) (w.drewN q) := by
  rw [hl]
  refine run_convert_bytes_back (w.drewN q) 22 9 5 _ c l Try.underlying22 Try.underlying5 Try.underlying9 (fun j hj => ?_)
  rw [add_at]
  exact hr j hj

/-! ### The ways through 'within', n = len(top) at most len(dir) -/
theorem size_data (s : ByteArray) : s.data.toList.length = s.size := by rw [Array.length_toList]; rfl
theorem no_of {s : ByteArray} {n : Nat} {l : List UInt8} (hl : n = l.length) (hn : 1 ≤ n) (hge : n ≤ s.size) (h : s.size < n ∨ (!(s.extract 0 n).toList == l) = true) : withinB s.data.toList l = false := by
  have h' : ¬ s.data.toList.take n = l := by
    rcases h with h | h
    · omega
    · rw [ByteArray.toList_eq, head_data] at h
      simpa using h
  subst hl
  refine decide_eq_false ?_
  rintro (h1 | ⟨_, h2, _⟩)
  · subst h1; simp at hn
  · exact h' h2
theorem take_of {s : ByteArray} {n : Nat} {l : List UInt8} (h : ¬ s.size < n ∧ (!(s.extract 0 n).toList == l) = false) : s.data.toList.take n = l := by
  have h2 := h.2
  rw [ByteArray.toList_eq, head_data] at h2
  simpa using h2
theorem eq_of {s : ByteArray} {n : Nat} {l : List UInt8} (hl : n = l.length) (h : ¬ s.size < n ∧ (!(s.extract 0 n).toList == l) = false) (e : (s.size : Int) = (n : Int)) : withinB s.data.toList l = true := by
  have h' := take_of h
  subst hl
  have hz := size_data s
  exact decide_eq_true (.inr ⟨by omega, h', .inl (by omega)⟩)
theorem more_of {s : ByteArray} {n : Nat} {l : List UInt8} (hl : n = l.length) (hn : 1 ≤ n) (h : ¬ s.size < n ∧ (!(s.extract 0 n).toList == l) = false) (e : ¬ (s.size : Int) = (n : Int)) (hlt : n < s.size) :
    ((s.size : Int) == (n : Int) || ((s[n]'hlt).toNat : Int) == 47) = withinB s.data.toList l := by
  have h' := take_of h
  subst hl
  have hz := size_data s
  have hlt' : l.length < s.data.toList.length := by omega
  have hne : ¬ l = [] := by rintro rfl; simp at hn
  have e1 : ((s.size : Int) == (l.length : Int)) = false := by simpa using e
  have e2 : s.data.toList[l.length]?.getD 0 = s[l.length]'hlt := by
    rw [List.getElem?_eq_getElem hlt']
    rfl
  rw [e1, Bool.false_or]
  unfold withinB
  rw [e2]
  by_cases h47 : s[l.length]'hlt = 47
  · rw [h47]
    simp [h']
    exact .inr (by omega)
  · have : ¬ ((s[l.length]'hlt).toNat : Int) = 47 := by
      intro h
      exact h47 (UInt8.toNat_inj.1 (by simpa using (by omega : (s[l.length]'hlt).toNat = 47)))
    rw [show (((s[l.length]'hlt).toNat : Int) == 47) = false from by simpa using this]
    symm
    refine decide_eq_false ?_
    rintro (h1 | ⟨_, _, h2 | h2⟩)
    · exact hne h1
    · omega
    · exact h47 h2

set_option maxHeartbeats 400000 in
theorem within_long (s : ByteArray) (b off n c : Nat) (l : List UInt8) (w : World) (hs : s.size ≤ maxLen) (hn : 1 ≤ n) (hge : n ≤ s.size) (hl : n = l.length) (hr : Reads8 w b off l) :
    Calls Try.prog 12 #[.string s, .slice (some ⟨b, off, none⟩) n c] w fun e w' => e = .returned (.bool (withinB s.data.toList l)) ∧ ∃ m, w' = w.drewN m := by
  unfold maxLen at hs
  have hcv := conv_back b off n c l w hl hr
  have HL : Hid (n = l.length) := hl
  clear hl
  have h4 : ((n : Int) == 0) = false := by simp; omega
  have hd : decide ((s.size : Int) < (n : Int)) = false := decide_eq_false (by omega)
  go_enter Try.func12, Try.ntmps12
  go_wp2
  go_quiet (fail)
  go_wp2
  · go_ret
    have h : s.size < n ∨ (!(s.extract 0 n).toList == l) = true := by assumption
    exact ⟨by rw [no_of HL.out hn hge h]; rfl, _, rfl⟩
  · go_ret
    have h : ¬ s.size < n ∧ (!(s.extract 0 n).toList == l) = false := by assumption
    have h' : (s.size : Int) = (n : Int) := by assumption
    exact ⟨by rw [eq_of HL.out h h']; rfl, _, rfl⟩
  · go_ret
    have h : ¬ s.size < n ∧ (!(s.extract 0 n).toList == l) = false := by assumption
    have h' : ¬ (s.size : Int) = (n : Int) := by assumption
    have h'' : n < s.size := by assumption
    exact ⟨by rw [← more_of HL.out hn h h' h'']; rfl, _, rfl⟩

/-- 'within'. -/
theorem within_any (s : ByteArray) (a : Option Addr) (n c : Nat) (l : List UInt8) (w : World) (hs : s.size ≤ maxLen) (ht : Has w a n l) :
    Calls Try.prog 12 #[.string s, .slice a n c] w fun e w' => e = .returned (.bool (withinB s.data.toList l)) ∧ ∃ m, w' = w.drewN m := by
  obtain ⟨hl, h⟩ := ht
  by_cases h0 : n = 0
  · subst h0
    have hln : l = [] := List.length_eq_zero_iff.1 hl.symm
    subst hln
    refine (within_zero s a c w).mono ?_
    rintro e w' ⟨rfl, rfl⟩
    exact ⟨rfl, 0, rfl⟩
  · obtain ⟨b, off, rfl, hb, hr⟩ := h.resolve_left h0
    by_cases hge : n ≤ s.size
    · exact within_long s b off n c l w hs (by omega) hge hl hr
    · refine (within_short s _ n c w hs (by omega) (by omega)).mono ?_
      rintro e w' ⟨rfl, m, rfl⟩
      have hz := size_data s
      have : withinB s.data.toList l = false := by
        refine decide_eq_false ?_
        rintro (h1 | ⟨h1, _⟩)
        · subst h1; exact h0 hl
        · omega
      exact ⟨by rw [this], m, rfl⟩

set_option maxHeartbeats 400000 in
/-- 'ZZwithin'. -/
theorem zzWithin_any (s : ByteArray) (a : Option Addr) (n c : Nat) (l : List UInt8) (w : World) (hs : s.size ≤ maxLen) (ht : Has w a n l) :
    Calls Try.prog 8 #[.string s, .slice a n c] w fun e w' => e = .returned (.bool (withinB s.data.toList l)) ∧ ∃ m, w' = w.drewN m := by
  have H : Hid (Has w a n l) := ht
  clear ht
  go_enter Try.func8, Try.ntmps8
  go_wp2_with fail
  refine (within_any s a n c l _ hs H.out).mono ?_
  rintro e w' ⟨rfl, m, rfl⟩
  go_wp2
  go_ret
  exact ⟨rfl, _, rfl⟩
end Go.Proofs.Qxb6601311a
