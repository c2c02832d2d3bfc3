/-
  A PROOF OF 'Rows.FnCompareMatchesSubtractionSaid': the frame is the given shell's; the walk is filled in.
-/
import Derived.Test.Qxb6602480aWalksG
import Derived.Test.Qxb6602480aRows
import Derived.WalkKit
import Derived.ProofKit
import Derived.OpenShut
import Derived.ShutString
import Derived.ChangeOld
import Derived.Below
namespace Go.Proofs.Qxb6602480a.fnCompareMatchesSubtraction
open Go.ChangeShapes Go.WideShapes Go.ChangeAt Go.RowKit
open Go.ChangeMaps (open_string shut_string)
set_option linter.unusedVariables false

theorem own : ownKnob Try.prog.godebug = none := by kernel_rfl
theorem laidOut : laidOutB Try.prog = true := by kernel_rfl

/-- WHAT THE WALK IS TOLD OF A SLICE OF INTEGERS THAT CAME IN: it is nil; or it leads to a row of 'cap' cells, the numbers 'zs' (the first 'len' are its elements, the rest its spare room), each fitting its kind. -/
def IsRow (k : IntKind) (w : World) (a : Option Addr) (len cap : Nat) (zs : List Int) : Prop :=
  (a = none ∧ len = 0 ∧ cap = 0 ∧ zs = []) ∨
  ∃ x, a = some x ∧ len ≤ cap ∧ cap ≤ maxLen ∧ zs.length = cap ∧ (∀ i, i < zs.length → w.cell? (x.add i) = some (.int k (zs.getD i 0))) ∧ ∀ n ∈ zs, (Lit.int k n).wf = true

/-! ### THE WALK -/
set_option maxHeartbeats 800000 in
/-- Both of one length, not empty, at most 65536 words. -/
theorem walk_in (b0 o0 c0 b1 o1 c1 n : Nat) (xs ys : List Int) (w : World) (hn : 1 ≤ n) (hn' : n ≤ 65536) (hx : n = xs.length) (hy : n = ys.length) (hb0 : b0 < w.heap.size) (hb1 : b1 < w.heap.size)
    (hr0 : Reads w b0 o0 xs) (hr1 : Reads w b1 o1 ys) (hw0 : Words xs) (hw1 : Words ys) :
    Calls Try.prog 3 #[.slice (some ⟨b0, o0, none⟩) n c0, .slice (some ⟨b1, o1, none⟩) n c1] w fun e w' => e = .returned (.bool true) ∧ Below w.heap.size w w' := by
  have HX : Hid (n = xs.length) := hx
  have HY : Hid (n = ys.length) := hy
  clear hx hy
  have h4 : ((n : Int) == 0) = false := by simp; omega
  go_enter Try.func3, Try.ntmps3
  go_wp2_with fail
  refine (zz12_yes _ _ _ _ _ _ _ (by omega) (by omega)).mono ?_
  rintro e w1 ⟨rfl, rfl⟩
  go_wp2_with fail
  refine (clone_some b0 o0 n c0 xs _ (by omega) HX.out hb0 hr0).mono ?_
  rintro e w2 ⟨rfl, hbl2, ho2, hs2⟩
  have hr1' := hr1.below hbl2 hb1
  go_wp2_with fail
  refine (clone_some b1 o1 n c1 ys _ (by omega) HY.out (by omega) hr1').mono ?_
  rintro e w3 ⟨rfl, hbl3, ho3, hs3⟩
  have ho2' := ho2.below hbl3 (by omega)
  rw [hs2] at ho3
  go_wp2_with fail
  refine (compare_n _ 0 _ _ 0 _ n xs ys _ hn (by omega) HX.out HY.out ho2'.reads (by exact ho3.reads)).mono ?_
  rintro e w4 ⟨rfl, m, rfl⟩
  go_wp2_with fail
  refine (model_n _ 0 _ _ 0 _ n xs ys _ hn (by omega) HX.out HY.out (by exact ho2'.reads) (by exact ho3.reads) hw0 hw1).mono ?_
  rintro e w5 ⟨rfl, rfl⟩
  go_wp2
  go_ret
  exact ⟨by simp, below_drewN (hbl2.trans (hbl3.mono (by omega))) _⟩

set_option maxHeartbeats 400000 in
/-- Too long, empty, or of two lengths. -/
theorem walk_out (a0 : Option Addr) (n0 c0 : Nat) (a1 : Option Addr) (n1 c1 : Nat) (w : World) (h : 65536 < n0 ∨ 65536 < n1 ∨ n0 = 0 ∨ n0 ≠ n1) :
    Calls Try.prog 3 #[.slice a0 n0 c0, .slice a1 n1 c1] w fun e w' => e = .returned (.bool true) ∧ Below w.heap.size w w' := by
  go_enter Try.func3, Try.ntmps3
  go_wp2_with fail
  refine (zz12_any _ _ _ _ _ _ _).mono ?_
  rintro e w1 ⟨b, rfl, rfl⟩
  cases b
  · go_wp2
    go_ret
    exact ⟨rfl, Below.refl _ _⟩
  · by_cases h0 : 65536 < n0
    · go_wp2
      go_ret
      exact ⟨rfl, Below.refl _ _⟩
    by_cases h1 : 65536 < n1
    · go_wp2
      go_ret
      exact ⟨rfl, Below.refl _ _⟩
    by_cases h2 : n0 = 0
    · subst h2
      go_wp2
      go_ret
      exact ⟨rfl, Below.refl _ _⟩
    · have h3 : n0 ≠ n1 := by omega
      clear h
      have h4 : ((n0 : Int) == 0) = false := by simp; omega
      have h5 : ((n0 : Int) == n1) = false := by simp; omega
      clear h2 h3
      go_wp2
      go_ret
      exact ⟨rfl, Below.refl _ _⟩

theorem walk (a0 : Option Addr) (len0 cap0 : Nat) (z0 : List Int) (a1 : Option Addr) (len1 cap1 : Nat) (z1 : List Int) (w : World) (w0 : IsRow .u64 w a0 len0 cap0 z0) (w1 : IsRow .u64 w a1 len1 cap1 z1) :
    Calls Try.prog 3 #[.slice a0 len0 cap0, .slice a1 len1 cap1] w fun e w' => e = .returned (.bool true) ∧ Below w.heap.size w w' := by
  by_cases h : 65536 < len0 ∨ 65536 < len1 ∨ len0 = 0 ∨ len0 ≠ len1
  · exact walk_out a0 len0 cap0 a1 len1 cap1 w h
  · obtain rfl : len1 = len0 := by omega
    rcases w0 with ⟨_, h0, _⟩ | ⟨x0, rfl, hl0, hm0, hz0, hc0, hwf0⟩
    · omega
    rcases w1 with ⟨_, h1, _⟩ | ⟨x1, rfl, hl1, hm1, hz1, hc1, hwf1⟩
    · omega
    obtain ⟨b0, o0, rfl, hb0, hr0, hw0, hx⟩ := row_open (by omega) hl0 hz0 hc0 hwf0
    obtain ⟨b1, o1, rfl, hb1, hr1, hw1, hy⟩ := row_open (by omega) hl1 hz1 hc1 hwf1
    exact walk_in b0 o0 cap0 b1 o1 cap1 _ _ _ w (by omega) (by omega) hx.symm hy.symm hb0 hb1 hr0 hr1 hw0 hw1

/-! ### THE ROW's STEP: WRITTEN OUT: LEAVE IT -/
set_option maxRecDepth 100000 in
theorem lifted (os : Os) (started : os.Started) (H : Type) (enc : TypeId × Value → H) :
    ReturnsInHanded {} Try.checked os 3 .any (Rows.fnCompareMatchesSubtractionSpec.pre6 enc Try.prog Try.f3 Rows.fnCompareMatchesSubtractionRow.domain false) (Rows.fnCompareMatchesSubtractionSpec.post enc Try.prog Try.f3 false true false false) := by
  refine returnsInHanded_of_change (C := Try.checked) own started (by kernel_rfl) Try.func3
    (ChangeSpec.witness6 (enc := enc) (C := Try.checked) false ⟨#[], #[.slice none 0 0, .slice none 0 0], []⟩ 8 (by kernel_rfl) (by kernel_rfl) (by kernel_rfl) (by kernel_rfl)) ?_
  intro W base args ds gs before hval0 hW hcnd _
  have hval : ∀ (j : Nat) t v, Try.f3.params[j]? = some t → args[j]? = some v → Value.okWide Try.prog W .any base t v := hval0
  have hW' := hW
  obtain ⟨p, q, hA0, hV, rfl, hfz, hnd⟩ := hW
  have hA : DataW.TrodAll enc Try.prog W 0 (fun _ => true) true Try.f3.params.toList args.toList ds p := hA0
  rw [Try.params3] at hA hval
  obtain ⟨v0, vs0, d0, ds0, p0, q0, hargs, rfl, rfl, h0, r0⟩ := trodAll_cons hA
  obtain ⟨v1, vs1, d1, ds1, p1, q1, rfl, rfl, rfl, h1, r1⟩ := trodAll_cons r0
  obtain ⟨rfl, rfl, rfl⟩ := trodAll_nil r1
  obtain rfl : args = #[v0, v1] := by cases args; simp_all
  obtain ⟨rfl, rfl⟩ := trodVars_none hV
  obtain ⟨a0, len0, cap0, rfl⟩ := okWide_slice Try.underlying22 (hval 0 22 v0 rfl rfl)
  have k0 := h0
  have lt0 : ∀ x ∈ p0, x.block < W.heap.size := by obtain ⟨m, hm⟩ := k0; exact DataW.trod_lt m _ _ _ hm
  obtain ⟨z0, w0⟩ : ∃ zs, IsRow .u64 W a0 len0 cap0 zs := by
    obtain ⟨fuel, hf⟩ := h0
    rcases open_ints Try.underlying22 Try.underlying30 (by kernel_rfl) hf with ⟨hcs, _⟩ | ⟨x, l, c, zs, hcs, _, hl, hm, hz, _, hcell, hwz⟩
    · simp [Value.cells] at hcs
      obtain ⟨rfl, rfl, rfl⟩ := hcs
      exact ⟨[], .inl ⟨rfl, rfl, rfl, rfl⟩⟩
    · simp [Value.cells] at hcs
      obtain ⟨rfl, rfl, rfl⟩ := hcs
      exact ⟨zs, .inr ⟨_, rfl, hl, hm, by simpa using hz, hcell, hwz⟩⟩
  obtain ⟨a1, len1, cap1, rfl⟩ := okWide_slice Try.underlying22 (hval 1 22 v1 rfl rfl)
  have k1 := h1
  have lt1 : ∀ x ∈ p1, x.block < W.heap.size := by obtain ⟨m, hm⟩ := k1; exact DataW.trod_lt m _ _ _ hm
  obtain ⟨z1, w1⟩ : ∃ zs, IsRow .u64 W a1 len1 cap1 zs := by
    obtain ⟨fuel, hf⟩ := h1
    rcases open_ints Try.underlying22 Try.underlying30 (by kernel_rfl) hf with ⟨hcs, _⟩ | ⟨x, l, c, zs, hcs, _, hl, hm, hz, _, hcell, hwz⟩
    · simp [Value.cells] at hcs
      obtain ⟨rfl, rfl, rfl⟩ := hcs
      exact ⟨[], .inl ⟨rfl, rfl, rfl, rfl⟩⟩
    · simp [Value.cells] at hcs
      obtain ⟨rfl, rfl, rfl⟩ := hcs
      exact ⟨zs, .inr ⟨_, rfl, hl, hm, by simpa using hz, hcell, hwz⟩⟩
  clear hA0 hval0
  refine (walk a0 len0 cap0 z0 a1 len1 cap1 z1 W w0 w1).mono fun e W' ⟨he, bel⟩ => ?_
  subst he
  exact ⟨_, rfl, _, _, _, [], _, [], hW', trodAll_mk1 (shut_bool Try.underlying4 _), (trodAll_cons_mk (Below.trod laidOut (by kernel_rfl) (of_decide_eq_true (by kernel_rfl)) k0 bel lt0) (trodAll_cons_mk (Below.trod laidOut (by kernel_rfl) (of_decide_eq_true (by kernel_rfl)) k1 bel lt1) trodAll_mk0)), rfl, bel.frame _, fun h => by cases h⟩

theorem over : Rows.fnCompareMatchesSubtractionRow.holds Try.pinned (OpenSpec.ofChange Rows.fnCompareMatchesSubtractionSpec) :=
  OpenClaim.holds_of_wide 3 Try.f3 rfl rfl rfl rfl rfl rfl rfl ⟨rfl, rfl, rfl, rfl, rfl⟩ rfl rfl rfl rfl rfl (by kernel_rfl) Try.func3 (by kernel_rfl)
    (of_decide_eq_true (by kernel_rfl)) (by unfold Func.isWrapper; first | (rw [if_pos (by decide +kernel)]; kernel_rfl) | (rw [if_neg (by decide +kernel)]; exact ⟨rfl, rfl⟩))
    (fun os started H enc _ => lifted os started H enc)

/-- ████ THE STATEMENT ████ -/
theorem proved : Rows.FnCompareMatchesSubtractionSaid := over
end Go.Proofs.Qxb6602480a.fnCompareMatchesSubtraction
