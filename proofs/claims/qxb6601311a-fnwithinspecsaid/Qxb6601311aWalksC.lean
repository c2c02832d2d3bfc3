/-
  THE WALKS, C: 'zzCloneB1' (7).
-/
import Derived.Test.Qxb6601311aWalksB
import Derived.Laws.CopyOwn
namespace Go.Proofs.Qxb6601311a
open Go.RowKit
set_option linter.unusedVariables false

theorem Try.info5 : (Try.prog.info? 5).map (fun i => (i.zero, i.size, i.bytes)) = some (some (.int .u8 0), 1, 1) := by kernel_rfl
theorem Try.size5 : (Try.prog.info? 5).map (·.size) = some 1 := by kernel_rfl

theorem run_make_u8 (w : World) (n : Nat) (hn : n ≤ 1048576) :
    (Instr.makeSlice 22 (.int .i64 (n : Int)) (.int .i64 (n : Int))).run Try.prog w = .ok (.slice (some ⟨w.heap.size, 0, none⟩) n n) (w.alloc (.cells (madeCells (Value.int .u8 0).cells n) 5)) := by
  obtain ⟨i0, hi, hz0, hz1, hz2⟩ := info_parts Try.info5
  have hr := run_make (P := Try.prog) w 22 5 i0 (.int .u8 0) Try.underlying22 hi hz0 .i64 .i64 n n (by omega) (Int.le_refl _) (by rw [hz2]; omega) (by omega)
  simpa [hz1] using hr

/-- A slice of bytes that can be cloned. -/
def Src8 (w : World) (a : Option Addr) (n c : Nat) (l : List UInt8) : Prop :=
  n = l.length ∧ ((a = none ∧ n = 0 ∧ c = 0) ∨ ∃ x, a = some x ∧ (n = 0 ∨ ∃ b off, x = ⟨b, off, none⟩ ∧ b < w.heap.size ∧ Reads8 w b off l))

/-- The cells of the bytes l. -/
def cells8 (l : List UInt8) : List Value := l.map fun b => Value.int .u8 b.toNat
theorem cells8_len (l : List UInt8) : (cells8 l).length = l.length := by simp [cells8]
theorem cells8_one (l : List UInt8) : ∀ v ∈ cells8 l, v.oneCell' = true := by
  intro v hv
  obtain ⟨b, _, rfl⟩ := List.mem_map.1 hv
  rfl
theorem made_at (w : World) (n : Nat) : (w.alloc (.cells (madeCells #[Value.int .u8 0] n) 5)).heap[w.heap.size]? = some (.cells (List.replicate n (Value.int .u8 0)).toArray 5 (0, 0)) := by
  rw [heap_alloc_new]
  congr 2
  apply Array.ext'
  rw [toList_madeCells_one]
theorem has_of (w : World) (g n : Nat) (l : List UInt8) (hl : n = l.length) (h : w.heap[g]? = some (.cells (splice (List.replicate n (Value.int .u8 0)) 0 (cells8 l)).toArray 5 (0, 0))) : Has w (some ⟨g, 0, none⟩) n l := by
  refine ⟨hl, .inr ⟨g, 0, rfl, ?_, ?_⟩⟩
  · rcases Nat.lt_or_ge g w.heap.size with h' | h'
    · exact h'
    · rw [Array.getElem?_eq_none h'] at h; cases h
  · intro j hj
    rw [Nat.zero_add, cell_of_row w g j _ 5 (0, 0) h]
    have hj2 : j < (cells8 l).length := by rw [cells8_len]; exact hj
    have e : splice (List.replicate n (Value.int .u8 0)) 0 (cells8 l) = cells8 l := by
      unfold splice
      rw [List.take_zero, List.nil_append, Nat.zero_add, List.drop_eq_nil_of_le (by rw [cells8_len]; simp; omega), List.append_nil]
    rw [e]
    simp [cells8, hj]

set_option maxHeartbeats 400000 in
theorem clone_nil (w : World) :
    Calls Try.prog 7 #[.slice none 0 0] w fun e w' => e = .returned (.slice none 0 0) ∧ w' = w := by
  have hnil := fun wx => Lib.run_eql_slice_nil (P := Try.prog) wx 22 5 none 0 0 0 0 Try.underlying22
  go_enter Try.func7, Try.ntmps7
  go_wp2
  go_ret
  exact ⟨rfl, rfl⟩

/-- What 'copy' does behind that 'make'. -/
theorem copy_run (x : Addr) (n c : Nat) (l : List UInt8) (w : World) (hl : n = l.length) (hs : n = 0 ∨ ∃ b off, x = ⟨b, off, none⟩ ∧ b < w.heap.size ∧ Reads8 w b off l) :
    ∃ w1, (Builtin.copy_ #[22, 22] 3 #[.slice (some ⟨w.heap.size, 0, none⟩) n n, .slice (some x) n c]).run Try.prog (w.alloc (.cells (madeCells #[Value.int .u8 0] n) 5)) = .ok (goInt n) w1 ∧
      Has w1 (some ⟨w.heap.size, 0, none⟩) n l ∧ Below w.heap.size w w1 := by
  have hb : Below w.heap.size w (w.alloc (.cells (madeCells #[Value.int .u8 0] n) 5)) := (Below.refl _ _).alloc (Nat.le_refl _) _
  by_cases h0 : n = 0
  · subst h0
    exact ⟨_, run_copy_none (P := Try.prog) _ 22 22 3 5 _ _ 0 0 0 c Try.underlying22 Try.size5 rfl, ⟨hl, .inl rfl⟩, hb⟩
  · obtain ⟨b, off, rfl, hlt, hr⟩ := hs.resolve_left h0
    have hn : (cells8 l).length = Nat.min n n := by rw [cells8_len, ← hl]; exact (Nat.min_self n).symm
    have hg := made_at w n
    have hrun := run_copy_row (P := Try.prog) (w.alloc (.cells (madeCells #[Value.int .u8 0] n) 5)) 22 22 3 5 w.heap.size 0 n n ⟨b, off, none⟩ n c (List.replicate n (Value.int .u8 0)).toArray 5 (cells8 l)
      Try.underlying22 Try.size5 hg hn (by
        intro j v hv
        have hj : j < l.length := by
          have := (List.getElem?_eq_some_iff.1 hv).1
          rwa [cells8_len] at this
        rw [add_at, World.cell?_alloc_past _ _ _ hlt, hr j hj]
        simpa [cells8, hj] using hv) (by rw [cells8_len]; simp; omega) (cells8_one l)
    rw [cells8_len, ← hl] at hrun
    refine ⟨_, hrun, has_of _ _ n l hl ?_, below_setRow hb (Nat.le_refl _) _⟩
    have := setRow_heap (w.alloc (.cells (madeCells #[Value.int .u8 0] n) 5)) w.heap.size _ (splice (List.replicate n (Value.int .u8 0)) 0 (cells8 l)).toArray 5 _ hg
    unfold splice at this ⊢
    rw [cells8_len, ← hl] at this ⊢
    exact this

set_option maxHeartbeats 400000 in
theorem clone_some (x : Addr) (n c : Nat) (l : List UInt8) (w : World) (hn : n ≤ 1048576) (hl : n = l.length) (hs : n = 0 ∨ ∃ b off, x = ⟨b, off, none⟩ ∧ b < w.heap.size ∧ Reads8 w b off l) :
    Calls Try.prog 7 #[.slice (some x) n c] w fun e w' => e = .returned (.slice (some ⟨w.heap.size, 0, none⟩) n n) ∧ Has w' (some ⟨w.heap.size, 0, none⟩) n l ∧ Below w.heap.size w w' := by
  have hnil := fun wx => Lib.run_eql_slice_nil (P := Try.prog) wx 22 5 (some x) n c 0 0 Try.underlying22
  have hmk := run_make_u8 w n hn
  obtain ⟨w1, hrun, hh, hb⟩ := copy_run x n c l w hl hs
  clear hl hs
  go_enter Try.func7, Try.ntmps7
  go_wp2
  go_ret
  exact ⟨rfl, hh, hb⟩

/-- 'zzCloneB1', of whatever slice. -/
theorem clone_any (a : Option Addr) (n c : Nat) (l : List UInt8) (w : World) (hn : n ≤ 1048576) (hs : Src8 w a n c l) :
    Calls Try.prog 7 #[.slice a n c] w fun e w' => ∃ a', e = .returned (.slice a' n n) ∧ Has w' a' n l ∧ Below w.heap.size w w' := by
  obtain ⟨hl, ⟨rfl, rfl, rfl⟩ | ⟨x, rfl, h⟩⟩ := hs
  · refine (clone_nil w).mono ?_
    rintro e w' ⟨rfl, rfl⟩
    exact ⟨none, rfl, ⟨hl, .inl rfl⟩, Below.refl _ _⟩
  · refine (clone_some x n c l w hn hl h).mono ?_
    rintro e w' ⟨rfl, h1, h2⟩
    exact ⟨_, rfl, h1, h2⟩
end Go.Proofs.Qxb6601311a
