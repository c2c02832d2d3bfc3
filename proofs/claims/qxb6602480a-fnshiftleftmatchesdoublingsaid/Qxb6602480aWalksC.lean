/-
  THE WALKS, C: 'lwClone' (13), 'lwEqual' (21).
-/
import Derived.Test.Qxb6602480aWalksA
import Derived.Deep.QuietTactic
import Derived.BigQuiet
namespace Go.Proofs.Qxb6602480a
open Go.RowKit
set_option linter.unusedVariables false

/-- The first k words copied, the rest still nought. -/
def copyTo (xs : List Int) (k n : Nat) : List Int := xs.take k ++ List.replicate (n - k) 0
theorem copyTo_len (xs : List Int) (k n : Nat) (h : k ≤ n) (hx : k ≤ xs.length) : (copyTo xs k n).length = n := by simp [copyTo]; omega
theorem copyTo_set (xs : List Int) (k n : Nat) (h : k < n) (hx : k < xs.length) : (copyTo xs k n).set k (xs.getD k 0) = copyTo xs (k + 1) n := by
  apply List.ext_getElem?
  intro j
  unfold copyTo
  rw [List.getElem?_set]
  simp only [List.getElem?_append, List.length_append, List.length_replicate, List.getElem?_replicate, List.length_take, List.getElem?_take]
  by_cases e : k = j
  · subst e
    simp [hx, Nat.min_eq_left (Nat.le_of_lt hx), Nat.min_eq_left (Nat.succ_le_of_lt hx)]
    omega
  · have e1 : min k xs.length = k := by omega
    have e2 : min (k + 1) xs.length = k + 1 := by omega
    rw [e1, e2]
    repeat' split
    all_goals (first | rfl | omega)
theorem copyTo_zero (xs : List Int) (n : Nat) : copyTo xs 0 n = List.replicate n 0 := by simp [copyTo]
theorem copyTo_all (xs : List Int) : copyTo xs xs.length xs.length = xs := by simp [copyTo]

set_option maxHeartbeats 400000 in
/-- 'lwClone' of a slice that is not nil. -/
theorem clone_some (b off n c : Nat) (xs : List Int) (w : World) (hn' : n ≤ 65537) (hx : n = xs.length) (hb : b < w.heap.size) (hr : Reads w b off xs) :
    Calls Try.prog 13 #[.slice (some ⟨b, off, none⟩) n c] w fun e w' => e = .returned (.slice (some ⟨w.heap.size, 0, none⟩) n n) ∧ Below w.heap.size w w' ∧ Own w' w.heap.size xs ∧ w'.heap.size = w.heap.size + 1 := by
  have hmk := run_make_u64 w n (by omega)
  have hnil := fun wx => Lib.run_eql_slice_nil (P := Try.prog) wx 22 30 (some ⟨b, off, none⟩) n c 0 0 Try.underlying22
  have HX : Hid (n = xs.length) := hx
  clear hx
  go_enter Try.func13, Try.ntmps13
  go_wp2
  go_loopw [12] (fun i wr => ∃ k : Nat, k ≤ n ∧ i = .int .i64 k ∧ Own wr w.heap.size (copyTo xs k n) ∧ Below w.heap.size w wr ∧ wr.heap.size = w.heap.size + 1) (fun i _ => n - (intOf i).toNat)
  case atStart => exact ⟨0, Nat.zero_le _, rfl, by rw [copyTo_zero]; exact own_made w n, (Below.refl _ _).alloc (Nat.le_refl _) _, by simp⟩
  case round =>
    obtain ⟨k, hk, rfl, ho, hbl, hs⟩ := hrel
    by_cases hlt : k < n
    · have hl := HX.out
      have hc := ho.cell k (by rw [copyTo_len _ _ _ hk (by omega)]; exact hlt)
      have hf := ho.frozen k
      have hcx := (hr.below hbl hb) k (by omega)
      clear hl
      go_wp2
      go_roundw
      case rel => exact ⟨k + 1, by omega, by go_num, by rw [← copyTo_set _ _ _ hlt (by have := HX.out; omega)]; exact ho.set _ _, hbl.setCell (Nat.le_refl _) _, by simpa using hs⟩
      case measure => simp [intOf]; omega
    · have hk' : k = n := by omega
      subst hk'
      go_wp2
      go_ret
      exact ⟨rfl, hbl, by have h := ho; rw [HX.out, copyTo_all] at h; exact h, hs⟩

set_option maxHeartbeats 400000 in
/-- 'lwClone' of an empty slice that is not nil. -/
theorem clone_empty (a : Addr) (c : Nat) (w : World) :
    Calls Try.prog 13 #[.slice (some a) 0 c] w fun e w' => e = .returned (.slice (some ⟨w.heap.size, 0, none⟩) 0 0) ∧ Below w.heap.size w w' ∧ Own w' w.heap.size [] ∧ w'.heap.size = w.heap.size + 1 := by
  have hmk : (Instr.makeSlice 22 (.int .i64 0) (.int .i64 0)).run Try.prog w = .ok (.slice (some ⟨w.heap.size, 0, none⟩) 0 0) (w.alloc (.cells (madeCells (Value.int .u64 0).cells 0) 30)) := run_make_u64 w 0 (by omega)
  have hnil := fun wx => Lib.run_eql_slice_nil (P := Try.prog) wx 22 30 (some a) 0 c 0 0 Try.underlying22
  go_enter Try.func13, Try.ntmps13
  go_wp2
  go_loopw [12] (fun i wr => i = .int .i64 0 ∧ Own wr w.heap.size [] ∧ Below w.heap.size w wr ∧ wr.heap.size = w.heap.size + 1) (fun i _ => 0)
  case atStart => exact ⟨rfl, own_made w 0, (Below.refl _ _).alloc (Nat.le_refl _) _, by simp⟩
  case round =>
    obtain ⟨rfl, ho, hbl, hs⟩ := hrel
    go_wp2
    go_ret
    exact ⟨rfl, hbl, ho, hs⟩

set_option maxHeartbeats 400000 in
/-- 'lwClone' of nil. -/
theorem clone_nil (w : World) :
    Calls Try.prog 13 #[.slice none 0 0] w fun e w' => e = .returned (.slice none 0 0) ∧ w' = w := by
  have hnil := fun wx => Lib.run_eql_slice_nil (P := Try.prog) wx 22 30 none 0 0 0 0 Try.underlying22
  go_enter Try.func13, Try.ntmps13
  go_wp2
  go_ret
  exact ⟨rfl, rfl⟩

/-- The first k words agree. -/
def SameTo (xs ys : List Int) (k : Nat) : Prop := ∀ j, j < k → xs[j]?.getD 0 = ys[j]?.getD 0

theorem same_succ {xs ys : List Int} {k : Nat} (h : SameTo xs ys k) (e : (xs[k]?.getD 0 != ys[k]?.getD 0) = false) : SameTo xs ys (k + 1) := by
  intro j hj
  by_cases hjk : j = k
  · subst hjk
    simpa using e
  · exact h j (by omega)
theorem same_no {xs ys : List Int} {k : Nat} (e : (xs[k]?.getD 0 != ys[k]?.getD 0) = true) : (xs == ys) = false := by
  rw [beq_eq_false_iff_ne]
  rintro rfl
  simp at e
theorem same_eq {xs ys : List Int} {n : Nat} (h : SameTo xs ys n) (hx : n = xs.length) (hy : n = ys.length) : xs = ys := by
  apply List.ext_getElem (by omega)
  intro j h1 h2
  have := h j (by omega)
  simpa [h1, h2] using this
theorem same_all {xs ys : List Int} {n : Nat} (h : SameTo xs ys n) (hx : n = xs.length) (hy : n = ys.length) : (xs == ys) = true := by
  rw [same_eq h hx hy]
  simp

set_option maxHeartbeats 400000 in
/-- 'lwEqual' of two rows of one length. -/
theorem equal_any (b1 o1 c1 b2 o2 c2 n : Nat) (xs ys : List Int) (w : World) (hn' : n ≤ 65537) (hx : n = xs.length) (hy : n = ys.length) (hr1 : Reads w b1 o1 xs) (hr2 : Reads w b2 o2 ys) :
    Calls Try.prog 21 #[.slice (some ⟨b1, o1, none⟩) n c1, .slice (some ⟨b2, o2, none⟩) n c2] w fun e w' => e = .returned (.bool (xs == ys)) ∧ ∃ m, w' = w.drewN m := by
  have HX : Hid (n = xs.length) := hx
  have HY : Hid (n = ys.length) := hy
  clear hx hy
  go_enter Try.func21, Try.ntmps21
  go_wp2
  go_loopw [13] (fun i wr => ∃ k m : Nat, k ≤ n ∧ i = .int .i64 k ∧ SameTo xs ys k ∧ wr = w.drewN m) (fun i _ => n - (intOf i).toNat)
  case atStart => exact ⟨0, 0, Nat.zero_le _, rfl, fun j h => by omega, rfl⟩
  case round =>
    obtain ⟨k, m, hk, rfl, hsm, rfl⟩ := hrel
    by_cases hlt : k < n
    · have hl1 := HX.out
      have hl2 := HY.out
      have hc1 := hr1 k (by omega)
      have hc2 := hr2 k (by omega)
      clear hl1 hl2
      go_wp2
      go_quiet (fail)
      go_wp2
      · go_ret
        exact ⟨by rw [same_no (by assumption)]; rfl, _, World.drewN_drewN _ _ _⟩
      · go_roundw
        case rel => exact ⟨k + 1, _, by omega, by go_num, same_succ hsm (by assumption), rfl⟩
        case measure => simp [intOf]; omega
    · have hk' : k = n := by omega
      subst hk'
      go_wp2
      go_ret
      exact ⟨by rw [same_all hsm HX.out HY.out]; rfl, _, rfl⟩
end Go.Proofs.Qxb6602480a
