/-
  THE WALKS, A: 'make([]uint64, n)' and 'lwSignExtend' (function 20).
-/
import Derived.Test.Qxb6602480aRows
import Derived.Test.Qxb6602480aMem
import Derived.WalkKit
import Derived.WalkSpells
import Derived.WalkLawsBesides
namespace Go.Proofs.Qxb6602480a
open Go.RowKit

theorem Try.info30 : (Try.prog.info? 30).map (fun i => (i.zero, i.size, i.bytes)) = some (some (.int .u64 0), 1, 8) := by kernel_rfl

theorem run_make_u64 (w : World) (n : Nat) (hn : n ≤ 1048576) :
    (Instr.makeSlice 22 (.int .i64 (n : Int)) (.int .i64 (n : Int))).run Try.prog w = .ok (.slice (some ⟨w.heap.size, 0, none⟩) n n) (w.alloc (.cells (madeCells (Value.int .u64 0).cells n) 30)) := by
  obtain ⟨i0, hi, hz0, hz1, hz2⟩ := info_parts Try.info30
  have hr := run_make (P := Try.prog) w 22 30 i0 (.int .u64 0) Try.underlying22 hi hz0 .i64 .i64 n n (by omega) (Int.le_refl _) (by rw [hz2]; omega) (by omega)
  simpa [hz1] using hr


def fillTo (n k : Nat) (f : Int) : List Int := List.replicate k f ++ List.replicate (n - k) 0
theorem fillTo_len (n k : Nat) (f : Int) (h : k ≤ n) : (fillTo n k f).length = n := by simp [fillTo]; omega
theorem fillTo_set (n k : Nat) (f : Int) (h : k < n) : (fillTo n k f).set k f = fillTo n (k + 1) f := by
  apply List.ext_getElem?
  intro j
  unfold fillTo
  rw [List.getElem?_set]
  simp only [List.getElem?_append, List.length_append, List.length_replicate, List.getElem?_replicate]
  repeat' split
  all_goals (first | rfl | omega)
theorem fillTo_zero (n : Nat) (f : Int) : fillTo n 0 f = List.replicate n 0 := by simp [fillTo]
theorem fillTo_all (n : Nat) (f : Int) : fillTo n n f = List.replicate n f := by simp [fillTo]


set_option maxHeartbeats 400000 in
/-- 'lwSignExtend', v below nought. -/
theorem signExtend_neg (v : Int) (n : Nat) (w : World) (hn : 1 ≤ n) (hn' : n ≤ 65537) (hv : v < 0) :
    Calls Try.prog 20 #[.int .i64 v, .int .i64 n] w fun e w' => e = .returned (.slice (some ⟨w.heap.size, 0, none⟩) n n) ∧ Below w.heap.size w w' ∧ Own w' w.heap.size ((List.replicate n 18446744073709551615).set 0 (IntKind.u64.wrap v)) ∧ w'.heap.size = w.heap.size + 1 := by
  have hmk := run_make_u64 w n (by omega)
  go_enter Try.func20, Try.ntmps20
  go_wp2
  go_loopw [14] (fun i wr => ∃ k : Nat, k ≤ n ∧ i = .int .i64 k ∧ Own wr w.heap.size (fillTo n k 18446744073709551615) ∧ Below w.heap.size w wr ∧ wr.heap.size = w.heap.size + 1) (fun i _ => n - (intOf i).toNat)
  case atStart => exact ⟨0, Nat.zero_le _, rfl, by rw [fillTo_zero]; exact own_made w n, (Below.refl _ _).alloc (Nat.le_refl _) _, by simp⟩
  case round =>
    obtain ⟨k, hk, rfl, ho, hb, hs⟩ := hrel
    by_cases hlt : k < n
    · have hc := ho.cell k (by rw [fillTo_len _ _ _ hk]; exact hlt)
      have hf := ho.frozen k
      go_wp2
      go_roundw
      case rel => exact ⟨k + 1, by omega, by go_num, by rw [← fillTo_set _ _ _ hlt]; exact ho.set _ _, hb.setCell (Nat.le_refl _) _, by simpa using hs⟩
      case measure => simp [intOf]; omega
    · have hk' : k = n := by omega
      subst hk'
      rw [fillTo_all] at ho
      have hc := ho.cell 0 (by simp; omega)
      have hf := ho.frozen 0
      go_wp2
      go_ret
      exact ⟨rfl, hb.setCell (Nat.le_refl _) _, ho.set _ _, by simpa using hs⟩

set_option maxHeartbeats 400000 in
/-- 'lwSignExtend', v from nought on. -/
theorem signExtend_pos (v : Int) (n : Nat) (w : World) (hn : 1 ≤ n) (hn' : n ≤ 65537) (hv : 0 ≤ v) :
    Calls Try.prog 20 #[.int .i64 v, .int .i64 n] w fun e w' => e = .returned (.slice (some ⟨w.heap.size, 0, none⟩) n n) ∧ Below w.heap.size w w' ∧ Own w' w.heap.size ((List.replicate n 0).set 0 (IntKind.u64.wrap v)) ∧ w'.heap.size = w.heap.size + 1 := by
  have hmk := run_make_u64 w n (by omega)
  go_enter Try.func20, Try.ntmps20
  go_wp2
  go_loopw [14] (fun i wr => ∃ k : Nat, k ≤ n ∧ i = .int .i64 k ∧ Own wr w.heap.size (fillTo n k 0) ∧ Below w.heap.size w wr ∧ wr.heap.size = w.heap.size + 1) (fun i _ => n - (intOf i).toNat)
  case atStart => exact ⟨0, Nat.zero_le _, rfl, by rw [fillTo_zero]; exact own_made w n, (Below.refl _ _).alloc (Nat.le_refl _) _, by simp⟩
  case round =>
    obtain ⟨k, hk, rfl, ho, hb, hs⟩ := hrel
    by_cases hlt : k < n
    · have hc := ho.cell k (by rw [fillTo_len _ _ _ hk]; exact hlt)
      have hf := ho.frozen k
      go_wp2
      go_roundw
      case rel => exact ⟨k + 1, by omega, by go_num, by rw [← fillTo_set _ _ _ hlt]; exact ho.set _ _, hb.setCell (Nat.le_refl _) _, by simpa using hs⟩
      case measure => simp [intOf]; omega
    · have hk' : k = n := by omega
      subst hk'
      rw [fillTo_all] at ho
      have hc := ho.cell 0 (by simp; omega)
      have hf := ho.frozen 0
      go_wp2
      go_ret
      exact ⟨rfl, hb.setCell (Nat.le_refl _) _, ho.set _ _, by simpa using hs⟩


def fillOf (v : Int) : Int := if v < 0 then 18446744073709551615 else 0
def signExt (v : Int) (n : Nat) : List Int := (List.replicate n (fillOf v)).set 0 (IntKind.u64.wrap v)

/-- 'lwSignExtend'. -/
theorem signExtend_any (v : Int) (n : Nat) (w : World) (hn : 1 ≤ n) (hn' : n ≤ 65537) :
    Calls Try.prog 20 #[.int .i64 v, .int .i64 n] w fun e w' => e = .returned (.slice (some ⟨w.heap.size, 0, none⟩) n n) ∧ Below w.heap.size w w' ∧ Own w' w.heap.size (signExt v n) ∧ w'.heap.size = w.heap.size + 1 := by
  unfold signExt fillOf
  split
  · exact signExtend_neg v n w hn hn' (by assumption)
  · exact signExtend_pos v n w hn hn' (by omega)

end Go.Proofs.Qxb6602480a
