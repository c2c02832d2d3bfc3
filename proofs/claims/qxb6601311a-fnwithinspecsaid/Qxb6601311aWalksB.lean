/-
  THE WALKS, B: '[]byte(s)'; the bounds on the total length (6, 11).
-/
import Derived.Test.Qxb6601311aWalksA
namespace Go.Proofs.Qxb6601311a
open Go.RowKit
set_option linter.unusedVariables false

/-- The room that the tape gives '[]byte(s)'. -/
def bcap (w : World) (s : ByteArray) : Nat := grownCap w s.size 0 5
/-- The world behind '[]byte(s)'. -/
def bworld (w : World) (s : ByteArray) : World :=
  w.drew.alloc (.cells (bytesRow s (grownCap w s.size 0 5)) 5 ((bytesRow s (grownCap w s.size 0 5)).size, (bytesRow s (grownCap w s.size 0 5)).size + 1))

theorem conv_to (s : ByteArray) (w : World) : (convert 9 22 (.string s)).run Try.prog w = .ok (.slice (some ⟨w.heap.size, 0, none⟩) s.size (bcap w s)) (bworld w s) :=
  run_bytes_of_string w 9 22 5 s Try.underlying9 Try.underlying22 Try.underlying5

theorem bworld_size (w : World) (s : ByteArray) : (bworld w s).heap.size = w.heap.size + 1 := by
  show (w.heap.push _).size = _
  simp
theorem bworld_below (w : World) (s : ByteArray) : Below w.heap.size w (bworld w s) :=
  ⟨rfl, rfl, rfl, by rw [bworld_size]; omega, fun k hk => Below.heap_alloc w.drew _ k hk⟩
theorem bworld_has (w : World) (s : ByteArray) : Has (bworld w s) (some ⟨w.heap.size, 0, none⟩) s.size s.data.toList := by
  refine ⟨(size_data s).symm, .inr ⟨w.heap.size, 0, rfl, by rw [bworld_size]; omega, ?_⟩⟩
  intro j hj
  rw [Nat.zero_add]
  have h := World.cell?_alloc_mark w.drew (bytesRow s (grownCap w s.size 0 5)) 5 ((bytesRow s (grownCap w s.size 0 5)).size, (bytesRow s (grownCap w s.size 0 5)).size + 1) j
  have h' : (bworld w s).cell? ⟨w.heap.size, j, none⟩ = (bytesRow s (grownCap w s.size 0 5))[j]? := h
  rw [h']
  have hj' : j < s.data.size := by simpa using hj
  have hj2 : j < (s.data.map (fun b => Value.int .u8 b.toNat)).size := by simpa using hj'
  rw [bytesRow, Array.getElem?_append_left hj2, Array.getElem?_eq_getElem hj2]
  simp

set_option maxHeartbeats 400000 in
/-- The total is small. -/
theorem zz11_yes (s t : ByteArray) (w : World) (h : s.size + t.size ≤ 1048576) :
    Calls Try.prog 11 #[.string s, .string t] w fun e w' => e = .returned (.bool true) ∧ w' = w := by
  go_enter Try.func11, Try.ntmps11
  go_wp2
  go_ret
  exact ⟨rfl, rfl⟩
set_option maxHeartbeats 400000 in
/-- The total is not. -/
theorem zz11_no (s t : ByteArray) (w : World) (h : 1048576 < s.size + t.size) :
    Calls Try.prog 11 #[.string s, .string t] w fun e w' => e = .returned (.bool false) ∧ w' = w := by
  by_cases h0 : 1048576 < s.size
  · go_enter Try.func11, Try.ntmps11
    go_wp2
    go_ret
    exact ⟨rfl, rfl⟩
  by_cases h1 : 1048576 < t.size
  · go_enter Try.func11, Try.ntmps11
    go_wp2
    go_ret
    exact ⟨rfl, rfl⟩
  · go_enter Try.func11, Try.ntmps11
    go_wp2
    go_ret
    exact ⟨rfl, rfl⟩

set_option maxHeartbeats 400000 in
/-- The total is small. -/
theorem zz6_yes (s : ByteArray) (a : Option Addr) (n c : Nat) (w : World) (h : s.size + n ≤ 1048576) :
    Calls Try.prog 6 #[.string s, .slice a n c] w fun e w' => e = .returned (.bool true) ∧ w' = w := by
  go_enter Try.func6, Try.ntmps6
  go_wp2
  go_ret
  exact ⟨rfl, rfl⟩
set_option maxHeartbeats 400000 in
/-- The total is not. -/
theorem zz6_no (s : ByteArray) (a : Option Addr) (n c : Nat) (w : World) (h : 1048576 < s.size + n) :
    Calls Try.prog 6 #[.string s, .slice a n c] w fun e w' => e = .returned (.bool false) ∧ w' = w := by
  by_cases h0 : 1048576 < s.size
  · go_enter Try.func6, Try.ntmps6
    go_wp2
    go_ret
    exact ⟨rfl, rfl⟩
  by_cases h1 : 1048576 < n
  · go_enter Try.func6, Try.ntmps6
    go_wp2
    go_ret
    exact ⟨rfl, rfl⟩
  · go_enter Try.func6, Try.ntmps6
    go_wp2
    go_ret
    exact ⟨rfl, rfl⟩
end Go.Proofs.Qxb6601311a
