/-
  A PROOF OF 'Rows.FnCompareAgreesWithOneWordSaid': the frame is the given shell's; the walk is filled in.
-/
import Derived.Test.Qxb6602480aPlainH
import Derived.Test.Qxb6602480aWalksG
import Derived.Test.Qxb6602480aRows
import Derived.WalkKit
import Derived.ProofKit
import Derived.OpenShut
import Derived.ShutString
import Derived.ChangeOld
import Derived.Below
namespace Go.Proofs.Qxb6602480a.fnCompareAgreesWithOneWord
open Go.ChangeShapes Go.WideShapes Go.ChangeAt Go.RowKit
open Go.ChangeMaps (open_string shut_string)
set_option linter.unusedVariables false

theorem own : ownKnob Try.prog.godebug = none := by kernel_rfl
theorem laidOut : laidOutB Try.prog = true := by kernel_rfl

/-- WHAT THE WALK IS TOLD OF A SLICE OF INTEGERS THAT CAME IN: it is nil; or it leads to a row of 'cap' cells, the numbers 'zs' (the first 'len' are its elements, the rest its spare room), each fitting its kind. -/
def IsRow (k : IntKind) (w : World) (a : Option Addr) (len cap : Nat) (zs : List Int) : Prop :=
  (a = none ∧ len = 0 ∧ cap = 0 ∧ zs = []) ∨
  ∃ x, a = some x ∧ len ≤ cap ∧ cap ≤ maxLen ∧ zs.length = cap ∧ (∀ i, i < zs.length → w.cell? (x.add i) = some (.int k (zs.getD i 0))) ∧ ∀ n ∈ zs, (Lit.int k n).wf = true

/-! ### THE WALK -/
set_option maxHeartbeats 800000 in
/-- Both of one length, not empty, at most 65536 words. -/
theorem walk_in (b0 o0 c0 b1 o1 c1 n : Nat) (xs ys : List Int) (w : World) (hn : 1 ≤ n) (hn' : n ≤ 65536) (hx : n = xs.length) (hy : n = ys.length) (hb0 : b0 < w.heap.size) (hb1 : b1 < w.heap.size)
    (hr0 : Reads w b0 o0 xs) (hr1 : Reads w b1 o1 ys) (hw0 : Words xs) (hw1 : Words ys) :
    Calls Try.prog 5 #[.slice (some ⟨b0, o0, none⟩) n c0, .slice (some ⟨b1, o1, none⟩) n c1] w fun e w' => e = .returned (.bool true) ∧ Below w.heap.size w w' := by
  have HX : Hid (n = xs.length) := hx
  have HY : Hid (n = ys.length) := hy
  clear hx hy
  have h4 : ((n : Int) == 0) = false := by simp; omega
  go_enter Try.func5, Try.ntmps5
  go_wp2_with fail
  refine (zz17_yes _ _ _ _ _ _ _ (by omega) (by omega)).mono ?_
  rintro e w1 ⟨rfl, rfl⟩
  go_wp2_with fail
  refine (clone_some b0 o0 n c0 xs _ (by omega) HX.out hb0 hr0).mono ?_
  rintro e w2 ⟨rfl, hbl2, ho2, hs2⟩
  have hr1' := hr1.below hbl2 hb1
  go_wp2_with fail
  refine (clone_some b1 o1 n c1 ys _ (by omega) HY.out (by omega) hr1').mono ?_
  rintro e w3 ⟨rfl, hbl3, ho3, hs3⟩
  have ho2' := ho2.below hbl3 (by omega)
  rw [hs2] at ho3
  go_wp2_with fail
  refine (zzOneWord_any _ 0 n n xs _ hn (by omega) HX.out (Nat.le_refl _) ho2'.reads).mono ?_
  rintro e w4 ⟨rfl, rfl⟩
  go_wp2_with fail
  refine (zzOneWord_any _ 0 n n ys _ hn (by omega) HY.out (Nat.le_refl _) (by exact ho3.reads)).mono ?_
  rintro e w5 ⟨rfl, rfl⟩
  have hbl : Below w1.heap.size w1 w5 := hbl2.trans (hbl3.mono (by omega))
  obtain ⟨p, hp⟩ : ∃ p, p = oneOk xs := ⟨_, rfl⟩
  obtain ⟨q, hq⟩ : ∃ q, q = oneOk ys := ⟨_, rfl⟩
  obtain ⟨u, hu⟩ : ∃ u, u = oneV xs := ⟨_, rfl⟩
  obtain ⟨v, hv⟩ : ∃ v, v = oneV ys := ⟨_, rfl⟩
  rw [← hp, ← hq, ← hu, ← hv]
  have HP : Hid (p = oneOk xs) := hp
  have HQ : Hid (q = oneOk ys) := hq
  have HU : Hid (u = oneV xs) := hu
  have HV : Hid (v = oneV ys) := hv
  clear hp hq hu hv
  cases p
  · cases q
    all_goals
      go_wp2
      go_ret
      exact ⟨rfl, hbl⟩
  cases q
  · go_wp2
    go_ret
    exact ⟨rfl, hbl⟩
  have HA : Hid (cmpOut xs ys (n - 1) = want u v) := by rw [HU.out, HV.out]; exact agree hw0 hw1 HP.out.symm HQ.out.symm n hn HX.out HY.out
  have hc := compare_n (w1.heap.size) 0 n (w1.heap.size + 1) 0 n n xs ys w5 hn (by omega) HX.out HY.out ho2'.reads (by exact ho3.reads)
  rw [HA.out] at hc
  have HC : Hid (Calls Try.prog 14 #[.slice (some ⟨w1.heap.size, 0, none⟩) n n, .slice (some ⟨w1.heap.size + 1, 0, none⟩) n n] w5 fun e w' => e = .returned (.int .i64 (want u v)) ∧ ∃ m, w' = w5.drewN m) := hc
  clear hc
  by_cases hlt : u < v
  · have e1 : want u v = -1 := if_pos hlt
    rw [e1] at HC
    go_wp2_with fail
    refine HC.out.mono ?_
    rintro e w6 ⟨rfl, m, rfl⟩
    go_wp2
    go_ret
    exact ⟨rfl, below_drewN hbl _⟩
  by_cases hgt : v < u
  · have e1 : want u v = 1 := by rw [want, if_neg hlt, if_pos hgt]
    rw [e1] at HC
    go_wp2_with fail
    refine HC.out.mono ?_
    rintro e w6 ⟨rfl, m, rfl⟩
    go_wp2
    go_ret
    exact ⟨rfl, below_drewN hbl _⟩
  · have e1 : want u v = 0 := by rw [want, if_neg hlt, if_neg hgt]
    rw [e1] at HC
    go_wp2_with fail
    refine HC.out.mono ?_
    rintro e w6 ⟨rfl, m, rfl⟩
    go_wp2
    go_ret
    exact ⟨rfl, below_drewN hbl _⟩

set_option maxHeartbeats 400000 in
/-- Too long, empty, or of two lengths. -/
theorem walk_out (a0 : Option Addr) (n0 c0 : Nat) (a1 : Option Addr) (n1 c1 : Nat) (w : World) (h : 65536 < n0 ∨ 65536 < n1 ∨ n0 = 0 ∨ n0 ≠ n1) :
    Calls Try.prog 5 #[.slice a0 n0 c0, .slice a1 n1 c1] w fun e w' => e = .returned (.bool true) ∧ Below w.heap.size w w' := by
  go_enter Try.func5, Try.ntmps5
  go_wp2_with fail
  refine (zz17_any _ _ _ _ _ _ _).mono ?_
  rintro e w1 ⟨b, rfl, rfl⟩
  cases b
  · go_wp2
    go_ret
    exact ⟨rfl, Below.refl _ _⟩
  · by_cases h0 : 65536 < n0
    · go_wp2
      go_ret
      exact ⟨rfl, Below.refl _ _⟩
    by_cases h1 : 65536 < n1
    · go_wp2
      go_ret
      exact ⟨rfl, Below.refl _ _⟩
    by_cases h2 : n0 = 0
    · subst h2
      go_wp2
      go_ret
      exact ⟨rfl, Below.refl _ _⟩
    · have h3 : n0 ≠ n1 := by omega
      clear h
      have h4 : ((n0 : Int) == 0) = false := by simp; omega
      have h5 : ((n0 : Int) == n1) = false := by simp; omega
      clear h2 h3
      go_wp2
      go_ret
      exact ⟨rfl, Below.refl _ _⟩

theorem walk (a0 : Option Addr) (len0 cap0 : Nat) (z0 : List Int) (a1 : Option Addr) (len1 cap1 : Nat) (z1 : List Int) (w : World) (w0 : IsRow .u64 w a0 len0 cap0 z0) (w1 : IsRow .u64 w a1 len1 cap1 z1) :
    Calls Try.prog 5 #[.slice a0 len0 cap0, .slice a1 len1 cap1] w fun e w' => e = .returned (.bool true) ∧ Below w.heap.size w w' := by
  by_cases h : 65536 < len0 ∨ 65536 < len1 ∨ len0 = 0 ∨ len0 ≠ len1
  · exact walk_out a0 len0 cap0 a1 len1 cap1 w h
  · obtain rfl : len1 = len0 := by omega
    rcases w0 with ⟨_, h0, _⟩ | ⟨x0, rfl, hl0, hm0, hz0, hc0, hwf0⟩
    · omega
    rcases w1 with ⟨_, h1, _⟩ | ⟨x1, rfl, hl1, hm1, hz1, hc1, hwf1⟩
    · omega
    obtain ⟨b0, o0, rfl, hb0, hr0, hw0, hx⟩ := row_open (by omega) hl0 hz0 hc0 hwf0
    obtain ⟨b1, o1, rfl, hb1, hr1, hw1, hy⟩ := row_open (by omega) hl1 hz1 hc1 hwf1
    exact walk_in b0 o0 cap0 b1 o1 cap1 _ _ _ w (by omega) (by omega) hx.symm hy.symm hb0 hb1 hr0 hr1 hw0 hw1

/-! ### THE ROW's STEP: WRITTEN OUT: LEAVE IT -/
set_option maxRecDepth 100000 in
theorem lifted (os : Os) (started : os.Started) (H : Type) (enc : TypeId × Value → H) :
    ReturnsInHanded {} Try.checked os 5 .any (Rows.fnCompareAgreesWithOneWordSpec.pre6 enc Try.prog Try.f5 Rows.fnCompareAgreesWithOneWordRow.domain false) (Rows.fnCompareAgreesWithOneWordSpec.post enc Try.prog Try.f5 false true false false) := by
  refine returnsInHanded_of_change (C := Try.checked) own started (by kernel_rfl) Try.func5
    (ChangeSpec.witness6 (enc := enc) (C := Try.checked) false ⟨#[], #[.slice none 0 0, .slice none 0 0], []⟩ 8 (by kernel_rfl) (by kernel_rfl) (by kernel_rfl) (by kernel_rfl)) ?_
  intro W base args ds gs before hval0 hW hcnd _
  have hval : ∀ (j : Nat) t v, Try.f5.params[j]? = some t → args[j]? = some v → Value.okWide Try.prog W .any base t v := hval0
  have hW' := hW
  obtain ⟨p, q, hA0, hV, rfl, hfz, hnd⟩ := hW
  have hA : DataW.TrodAll enc Try.prog W 0 (fun _ => true) true Try.f5.params.toList args.toList ds p := hA0
  rw [Try.params5] at hA hval
  obtain ⟨v0, vs0, d0, ds0, p0, q0, hargs, rfl, rfl, h0, r0⟩ := trodAll_cons hA
  obtain ⟨v1, vs1, d1, ds1, p1, q1, rfl, rfl, rfl, h1, r1⟩ := trodAll_cons r0
  obtain ⟨rfl, rfl, rfl⟩ := trodAll_nil r1
  obtain rfl : args = #[v0, v1] := by cases args; simp_all
  obtain ⟨rfl, rfl⟩ := trodVars_none hV
  obtain ⟨a0, len0, cap0, rfl⟩ := okWide_slice Try.underlying22 (hval 0 22 v0 rfl rfl)
  have k0 := h0
  have lt0 : ∀ x ∈ p0, x.block < W.heap.size := by obtain ⟨m, hm⟩ := k0; exact DataW.trod_lt m _ _ _ hm
  obtain ⟨z0, w0⟩ : ∃ zs, IsRow .u64 W a0 len0 cap0 zs := by
    obtain ⟨fuel, hf⟩ := h0
    rcases open_ints Try.underlying22 Try.underlying30 (by kernel_rfl) hf with ⟨hcs, _⟩ | ⟨x, l, c, zs, hcs, _, hl, hm, hz, _, hcell, hwz⟩
    · simp [Value.cells] at hcs
      obtain ⟨rfl, rfl, rfl⟩ := hcs
      exact ⟨[], .inl ⟨rfl, rfl, rfl, rfl⟩⟩
    · simp [Value.cells] at hcs
      obtain ⟨rfl, rfl, rfl⟩ := hcs
      exact ⟨zs, .inr ⟨_, rfl, hl, hm, by simpa using hz, hcell, hwz⟩⟩
  obtain ⟨a1, len1, cap1, rfl⟩ := okWide_slice Try.underlying22 (hval 1 22 v1 rfl rfl)
  have k1 := h1
  have lt1 : ∀ x ∈ p1, x.block < W.heap.size := by obtain ⟨m, hm⟩ := k1; exact DataW.trod_lt m _ _ _ hm
  obtain ⟨z1, w1⟩ : ∃ zs, IsRow .u64 W a1 len1 cap1 zs := by
    obtain ⟨fuel, hf⟩ := h1
    rcases open_ints Try.underlying22 Try.underlying30 (by kernel_rfl) hf with ⟨hcs, _⟩ | ⟨x, l, c, zs, hcs, _, hl, hm, hz, _, hcell, hwz⟩
    · simp [Value.cells] at hcs
      obtain ⟨rfl, rfl, rfl⟩ := hcs
      exact ⟨[], .inl ⟨rfl, rfl, rfl, rfl⟩⟩
    · simp [Value.cells] at hcs
      obtain ⟨rfl, rfl, rfl⟩ := hcs
      exact ⟨zs, .inr ⟨_, rfl, hl, hm, by simpa using hz, hcell, hwz⟩⟩
  clear hA0 hval0
  refine (walk a0 len0 cap0 z0 a1 len1 cap1 z1 W w0 w1).mono fun e W' ⟨he, bel⟩ => ?_
  subst he
  exact ⟨_, rfl, _, _, _, [], _, [], hW', trodAll_mk1 (shut_bool Try.underlying4 _), (trodAll_cons_mk (Below.trod laidOut (by kernel_rfl) (of_decide_eq_true (by kernel_rfl)) k0 bel lt0) (trodAll_cons_mk (Below.trod laidOut (by kernel_rfl) (of_decide_eq_true (by kernel_rfl)) k1 bel lt1) trodAll_mk0)), rfl, bel.frame _, fun h => by cases h⟩

theorem over : Rows.fnCompareAgreesWithOneWordRow.holds Try.pinned (OpenSpec.ofChange Rows.fnCompareAgreesWithOneWordSpec) :=
  OpenClaim.holds_of_wide 5 Try.f5 rfl rfl rfl rfl rfl rfl rfl ⟨rfl, rfl, rfl, rfl, rfl⟩ rfl rfl rfl rfl rfl (by kernel_rfl) Try.func5 (by kernel_rfl)
    (of_decide_eq_true (by kernel_rfl)) (by unfold Func.isWrapper; first | (rw [if_pos (by decide +kernel)]; kernel_rfl) | (rw [if_neg (by decide +kernel)]; exact ⟨rfl, rfl⟩))
    (fun os started H enc _ => lifted os started H enc)

/-- ████ THE STATEMENT ████ -/
theorem proved : Rows.FnCompareAgreesWithOneWordSaid := over
end Go.Proofs.Qxb6602480a.fnCompareAgreesWithOneWord
