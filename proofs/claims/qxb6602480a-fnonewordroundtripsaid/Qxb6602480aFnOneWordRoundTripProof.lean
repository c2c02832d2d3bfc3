/-
  A PROOF OF 'Rows.FnOneWordRoundTripSaid': the frame is the given shell's (its last step by 'Below' in the place of 'Grown'); the walk and the plain law are filled in.
-/
import Derived.Test.Qxb6602480aWalksB
import Derived.Test.Qxb6602480aRows
import Derived.WalkKit
import Derived.ProofKit
import Derived.OpenShut
import Derived.ShutString
import Derived.ChangeOld
import Derived.Below
namespace Go.Proofs.Qxb6602480a.fnOneWordRoundTrip
open Go.ChangeShapes Go.WideShapes Go.ChangeAt Go.RowKit
open Go.ChangeMaps (open_string shut_string)
set_option linter.unusedVariables false      -- a walk need not use every 'w<i>' (that an integer argument fits its kind)

theorem own : ownKnob Try.prog.godebug = none := by kernel_rfl

/-! ### THE PLAIN LAW -/
theorem first_of (v : Int) (n : Nat) (hn : 1 ≤ n) : (signExt v n)[0]?.getD 0 = IntKind.u64.wrap v := by
  unfold signExt
  rw [List.getElem?_set_self (by simp; omega)]
  rfl
theorem rest_of (v : Int) (n j : Nat) (hj : j < n) (h1 : 1 ≤ j) : (signExt v n)[j]?.getD 0 = fillOf v := by
  unfold signExt
  rw [List.getElem?_set_ne (by omega)]
  simp [hj]
theorem back (v : Int) (h1 : -9223372036854775808 ≤ v) (h2 : v ≤ 9223372036854775807) : wrap64 (IntKind.u64.wrap v) = v := by
  rw [IntKind.wrap_u64]
  unfold wrap64
  omega
theorem sgn_of (v : Int) (h1 : -9223372036854775808 ≤ v) (h2 : v ≤ 9223372036854775807) : sgnW (IntKind.u64.wrap v) = fillOf v := by
  unfold sgnW fillOf
  rw [back v h1 h2, IntKind.wrap_u64]
  split <;> omega
theorem ok_of (v : Int) (n : Nat) (hn : 1 ≤ n) (h1 : -9223372036854775808 ≤ v) (h2 : v ≤ 9223372036854775807) : oneOk (signExt v n) = true := by
  refine decide_eq_true fun j hj h => ?_
  have hj' : j < n := by simpa [signExt] using hj
  rw [rest_of v n j hj' h, first_of v n hn, sgn_of v h1 h2]
theorem v_of (v : Int) (n : Nat) (hn : 1 ≤ n) (h1 : -9223372036854775808 ≤ v) (h2 : v ≤ 9223372036854775807) : oneV (signExt v n) = v := by
  rw [oneV, if_pos (ok_of v n hn h1 h2), first_of v n hn, back v h1 h2]

/-! ### THE WALK -/
set_option maxHeartbeats 400000 in
theorem walk_in (v : Int) (n : Nat) (h1 : -9223372036854775808 ≤ v) (h2 : v ≤ 9223372036854775807) (hn : 1 ≤ n) (hn' : n ≤ 65536) (w : World) :
    Calls Try.prog 8 #[.int .i64 v, .int .i64 n] w fun e w' => e = .returned (.bool true) ∧ Below w.heap.size w w' := by
  go_enter Try.func8, Try.ntmps8
  go_wp2_with fail
  refine (signExtend_any v n _ hn (by omega)).mono ?_
  rintro e w1 ⟨rfl, hb, ho, hs⟩
  go_wp2_with fail
  refine (zzOneWord_any _ 0 n n (signExt v n) _ hn (by omega) (by simp [signExt]) (Nat.le_refl _) ho.reads).mono ?_
  rintro e w2 ⟨rfl, rfl⟩
  rw [ok_of v n hn h1 h2, v_of v n hn h1 h2]
  go_wp2
  go_ret
  exact ⟨by simp, hb⟩

theorem walk (a0 : Int) (a1 : Int) (w0 : (Lit.int .i64 a0).wf = true) (w1 : (Lit.int .i64 a1).wf = true) (w : World) :
    Calls Try.prog 8 #[.int .i64 a0, .int .i64 a1] w fun e w' => e = .returned (.bool true) ∧ Below w.heap.size w w' := by
  obtain ⟨h1, h2⟩ := bounds_i64 w0
  obtain ⟨h3, h4⟩ := bounds_i64 w1
  by_cases hlo : a1 < 1
  · go_enter Try.func8, Try.ntmps8
    go_wp2
    go_ret
    exact ⟨rfl, Below.refl _ _⟩
  by_cases hhi : 65536 < a1
  · go_enter Try.func8, Try.ntmps8
    go_wp2
    go_ret
    exact ⟨rfl, Below.refl _ _⟩
  obtain ⟨n, rfl⟩ := Int.eq_ofNat_of_zero_le (a := a1) (by omega)
  exact walk_in a0 n h1 h2 (by omega) (by omega) w

/-! ### THE ROW's STEP: WRITTEN OUT: LEAVE IT -/
set_option maxRecDepth 100000 in
theorem lifted (os : Os) (started : os.Started) (H : Type) (enc : TypeId × Value → H) :
    ReturnsInHanded {} Try.checked os 8 .any (Rows.fnOneWordRoundTripSpec.pre6 enc Try.prog Try.f8 Rows.fnOneWordRoundTripRow.domain false) (Rows.fnOneWordRoundTripSpec.post enc Try.prog Try.f8 false true false false) := by
  refine returnsInHanded_of_change (C := Try.checked) own started (by kernel_rfl) Try.func8
    (ChangeSpec.witness6 (enc := enc) (C := Try.checked) false ⟨#[], #[.int .i64 0, .int .i64 0], []⟩ 8 (by kernel_rfl) (by kernel_rfl) (by kernel_rfl) (by kernel_rfl)) ?_
  intro W base args ds gs before hval0 hW hcnd _
  have hval : ∀ (j : Nat) t v, Try.f8.params[j]? = some t → args[j]? = some v → Value.okWide Try.prog W .any base t v := hval0
  have hW' := hW
  obtain ⟨p, q, hA0, hV, rfl, hfz, hnd⟩ := hW
  have hA : DataW.TrodAll enc Try.prog W 0 (fun _ => true) true Try.f8.params.toList args.toList ds p := hA0
  rw [Try.params8] at hA hval
  obtain ⟨v0, vs0, d0, ds0, p0, q0, hargs, rfl, rfl, h0, r0⟩ := trodAll_cons hA
  obtain ⟨v1, vs1, d1, ds1, p1, q1, rfl, rfl, rfl, h1, r1⟩ := trodAll_cons r0
  obtain ⟨rfl, rfl, rfl⟩ := trodAll_nil r1
  obtain rfl : args = #[v0, v1] := by cases args; simp_all
  obtain ⟨rfl, rfl⟩ := trodVars_none hV
  obtain ⟨a0, rfl, rfl, rfl, w0⟩ := open_int Try.underlying2 (hval 0 2 v0 rfl rfl) h0
  obtain ⟨a1, rfl, rfl, rfl, w1⟩ := open_int Try.underlying3 (hval 1 3 v1 rfl rfl) h1
  clear hA0 hval0
  simp only [List.append_nil] at hW'
  refine (walk a0 a1 w0 w1 W).mono fun e W' ⟨he, hg⟩ => ?_
  subst he
  exact ⟨_, rfl, _, _, _, [], _, [], hW', trodAll_mk1 (shut_bool Try.underlying4 _), (trodAll_cons_mk (shut_int Try.underlying2 w0) (trodAll_cons_mk (shut_int Try.underlying3 w1) trodAll_mk0)), rfl, hg.frame _, fun h => by cases h⟩

theorem over : Rows.fnOneWordRoundTripRow.holds Try.pinned (OpenSpec.ofChange Rows.fnOneWordRoundTripSpec) :=
  OpenClaim.holds_of_wide 8 Try.f8 rfl rfl rfl rfl rfl rfl rfl ⟨rfl, rfl, rfl, rfl, rfl⟩ rfl rfl rfl rfl rfl (by kernel_rfl) Try.func8 (by kernel_rfl)
    (of_decide_eq_true (by kernel_rfl)) (by unfold Func.isWrapper; first | (rw [if_pos (by decide +kernel)]; kernel_rfl) | (rw [if_neg (by decide +kernel)]; exact ⟨rfl, rfl⟩))
    (fun os started H enc _ => lifted os started H enc)

/-- ████ THE STATEMENT ████ -/
theorem proved : Rows.FnOneWordRoundTripSaid :=
  over
end Go.Proofs.Qxb6602480a.fnOneWordRoundTrip
