/-
  THE WALKS, G: the bounds on the total length (12, 17, 19, 24, 27); a slice that came in, opened.
-/
import Derived.Test.Qxb6602480aWalksF
import Derived.OpenShut
namespace Go.Proofs.Qxb6602480a
open Go.RowKit
set_option linter.unusedVariables false

/-- A cell that is there lies in a block that is there. -/
theorem cell_lt {w : World} {a : Addr} {v : Value} (h : w.cell? a = some v) : a.block < w.heap.size := by
  rcases Nat.lt_or_ge a.block w.heap.size with h' | h'
  · exact h'
  · rw [World.cell?, Array.getElem?_eq_none h'] at h; cases h

/-- A slice of words that came in, not empty: where it lies, what it reads. -/
theorem row_open {w : World} {x : Addr} {len cap : Nat} {zs : List Int} (hl : 1 ≤ len) (hlc : len ≤ cap) (hz : zs.length = cap)
    (hc : ∀ i, i < zs.length → w.cell? (x.add i) = some (.int .u64 (zs.getD i 0))) (hwf : ∀ n ∈ zs, (Lit.int .u64 n).wf = true) :
    ∃ b off, x = ⟨b, off, none⟩ ∧ b < w.heap.size ∧ Reads w b off (zs.take len) ∧ Words (zs.take len) ∧ (zs.take len).length = len := by
  obtain ⟨b, off, spot⟩ := x
  have h0 := hc 0 (by omega)
  have hspot : spot = none := by simpa [Addr.add] using World.cell?_spot h0
  subst hspot
  have hlt := cell_lt h0
  refine ⟨b, off, rfl, by simpa [Addr.add] using hlt, ?_, ?_, by simp; omega⟩
  · intro j hj
    have hj' : j < len ∧ j < zs.length := by simp at hj; omega
    have h := hc j hj'.2
    have e : (⟨b, off + j, none⟩ : Addr) = (⟨b, off, none⟩ : Addr).add j := by simp [Addr.add]
    rw [e, h]
    simp [hj'.1]
  · intro j
    by_cases hj : j < (zs.take len).length
    · have hm : (zs.take len)[j] ∈ zs := List.mem_of_mem_take (List.getElem_mem hj)
      have := bounds_u64 (hwf _ hm)
      rw [List.getElem?_eq_getElem hj]
      simp only [Option.getD_some]
      omega
    · rw [List.getElem?_eq_none (by omega)]
      simp

/-- 'Compare', of n words. -/
theorem compare_n (b1 o1 c1 b2 o2 c2 n : Nat) (xs ys : List Int) (w : World) (hn : 1 ≤ n) (hn' : n ≤ 65537) (hx : n = xs.length) (hy : n = ys.length) (hr1 : Reads w b1 o1 xs) (hr2 : Reads w b2 o2 ys) :
    Calls Try.prog 14 #[.slice (some ⟨b1, o1, none⟩) n c1, .slice (some ⟨b2, o2, none⟩) n c2] w fun e w' => e = .returned (.int .i64 (cmpOut xs ys (n - 1))) ∧ ∃ m, w' = w.drewN m := by
  obtain ⟨t, rfl⟩ : ∃ t, n = t + 1 := ⟨n - 1, by omega⟩
  exact compare_any b1 o1 c1 b2 o2 c2 t xs ys w (by omega) hx.symm hy.symm hr1 hr2

/-- 'lwCmpModel', of n words. -/
theorem model_n (b1 o1 c1 b2 o2 c2 n : Nat) (xs ys : List Int) (w : World) (hn : 1 ≤ n) (hn' : n ≤ 65537) (hx : n = xs.length) (hy : n = ys.length) (hr1 : Reads w b1 o1 xs) (hr2 : Reads w b2 o2 ys) (hw1 : Words xs) (hw2 : Words ys) :
    Calls Try.prog 15 #[.slice (some ⟨b1, o1, none⟩) n c1, .slice (some ⟨b2, o2, none⟩) n c2] w fun e w' => e = .returned (.int .i64 (cmpOut xs ys (n - 1))) ∧ w' = w := by
  obtain ⟨t, rfl⟩ : ∃ t, n = t + 1 := ⟨n - 1, by omega⟩
  exact model_any b1 o1 c1 b2 o2 c2 t xs ys w (by omega) hx.symm hy.symm hr1 hr2 hw1 hw2

set_option maxHeartbeats 400000 in
theorem zz12_any (a0 : Option Addr) (n0 c0 : Nat) (a1 : Option Addr) (n1 c1 : Nat) (w : World) :
    Calls Try.prog 12 #[.slice a0 n0 c0, .slice a1 n1 c1] w fun e w' => ∃ b, e = .returned (.bool b) ∧ w' = w := by
  go_enter Try.func12, Try.ntmps12
  go_wp2
  all_goals (go_ret; exact ⟨_, rfl, rfl⟩)
set_option maxHeartbeats 400000 in
theorem zz12_yes (a0 : Option Addr) (n0 c0 : Nat) (a1 : Option Addr) (n1 c1 : Nat) (w : World) (h0 : n0 ≤ 65537) (h1 : n1 ≤ 65537) :
    Calls Try.prog 12 #[.slice a0 n0 c0, .slice a1 n1 c1] w fun e w' => e = .returned (.bool true) ∧ w' = w := by
  go_enter Try.func12, Try.ntmps12
  go_wp2
  go_ret
  exact ⟨rfl, rfl⟩

set_option maxHeartbeats 400000 in
theorem zz17_any (a0 : Option Addr) (n0 c0 : Nat) (a1 : Option Addr) (n1 c1 : Nat) (w : World) :
    Calls Try.prog 17 #[.slice a0 n0 c0, .slice a1 n1 c1] w fun e w' => ∃ b, e = .returned (.bool b) ∧ w' = w := by
  go_enter Try.func17, Try.ntmps17
  go_wp2
  all_goals (go_ret; exact ⟨_, rfl, rfl⟩)
set_option maxHeartbeats 400000 in
theorem zz17_yes (a0 : Option Addr) (n0 c0 : Nat) (a1 : Option Addr) (n1 c1 : Nat) (w : World) (h0 : n0 ≤ 65537) (h1 : n1 ≤ 65537) :
    Calls Try.prog 17 #[.slice a0 n0 c0, .slice a1 n1 c1] w fun e w' => e = .returned (.bool true) ∧ w' = w := by
  go_enter Try.func17, Try.ntmps17
  go_wp2
  go_ret
  exact ⟨rfl, rfl⟩

set_option maxHeartbeats 400000 in
theorem zz19_any (a0 : Option Addr) (n0 c0 : Nat) (w : World) :
    Calls Try.prog 19 #[.slice a0 n0 c0] w fun e w' => ∃ b, e = .returned (.bool b) ∧ w' = w := by
  go_enter Try.func19, Try.ntmps19
  go_wp2
  all_goals (go_ret; exact ⟨_, rfl, rfl⟩)
set_option maxHeartbeats 400000 in
theorem zz19_yes (a0 : Option Addr) (n0 c0 : Nat) (w : World) (h0 : n0 ≤ 65537) :
    Calls Try.prog 19 #[.slice a0 n0 c0] w fun e w' => e = .returned (.bool true) ∧ w' = w := by
  go_enter Try.func19, Try.ntmps19
  go_wp2
  go_ret
  exact ⟨rfl, rfl⟩

set_option maxHeartbeats 400000 in
theorem zz24_any (a0 : Option Addr) (n0 c0 : Nat) (a1 : Option Addr) (n1 c1 : Nat) (s : Int) (w : World) :
    Calls Try.prog 24 #[.slice a0 n0 c0, .slice a1 n1 c1, .int .u64 s] w fun e w' => ∃ b, e = .returned (.bool b) ∧ w' = w := by
  go_enter Try.func24, Try.ntmps24
  go_wp2
  all_goals (go_ret; exact ⟨_, rfl, rfl⟩)
set_option maxHeartbeats 400000 in
theorem zz24_yes (a0 : Option Addr) (n0 c0 : Nat) (a1 : Option Addr) (n1 c1 : Nat) (s : Int) (w : World) (h0 : n0 ≤ 65537) (h1 : n1 ≤ 65537) :
    Calls Try.prog 24 #[.slice a0 n0 c0, .slice a1 n1 c1, .int .u64 s] w fun e w' => e = .returned (.bool true) ∧ w' = w := by
  go_enter Try.func24, Try.ntmps24
  go_wp2
  go_ret
  exact ⟨rfl, rfl⟩

set_option maxHeartbeats 400000 in
theorem zz27_any (a0 : Option Addr) (n0 c0 : Nat) (s : Int) (w : World) :
    Calls Try.prog 27 #[.slice a0 n0 c0, .int .u64 s] w fun e w' => ∃ b, e = .returned (.bool b) ∧ w' = w := by
  go_enter Try.func27, Try.ntmps27
  go_wp2
  all_goals (go_ret; exact ⟨_, rfl, rfl⟩)
set_option maxHeartbeats 400000 in
theorem zz27_yes (a0 : Option Addr) (n0 c0 : Nat) (s : Int) (w : World) (h0 : n0 ≤ 65537) :
    Calls Try.prog 27 #[.slice a0 n0 c0, .int .u64 s] w fun e w' => e = .returned (.bool true) ∧ w' = w := by
  go_enter Try.func27, Try.ntmps27
  go_wp2
  go_ret
  exact ⟨rfl, rfl⟩
end Go.Proofs.Qxb6602480a
