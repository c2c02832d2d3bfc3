/-
  A PROOF OF 'Rows.FnWithinPartialOrderSaid': the frame is the given shell's (its last step by 'Below' in the place of 'Grown'); the walk and the plain law are filled in.
-/
import Derived.Test.Qxb6601311aWalksB
import Derived.Test.Qxb6601311aRows
import Derived.WalkKit
import Derived.ProofKit
import Derived.OpenShut
import Derived.ShutString
import Derived.ChangeOld
import Derived.Below
namespace Go.Proofs.Qxb6601311a.fnWithinPartialOrder
open Go.ChangeShapes Go.WideShapes Go.ChangeAt Go.RowKit
open Go.ChangeMaps (open_string shut_string)
set_option linter.unusedVariables false      -- a walk need not use every 'w<i>' (that an integer argument fits its kind)

theorem own : ownKnob Try.prog.godebug = none := by kernel_rfl

/-! ### THE PLAIN LAW -/
theorem within_self (s : List UInt8) : withinB s s = true :=
  decide_eq_true (.inr ⟨Nat.le_refl _, List.take_length, .inl rfl⟩)
theorem within_both {s l : List UInt8} (h1 : withinB s l = true) (h2 : withinB l s = true) : s = l := by
  rcases of_decide_eq_true h1 with e | ⟨a1, a2, _⟩
  · subst e
    rcases of_decide_eq_true h2 with e | ⟨b1, b2, _⟩
    · exact e
    · exact List.length_eq_zero_iff.1 (Nat.le_zero.1 b1)
  · rcases of_decide_eq_true h2 with e | ⟨b1, b2, _⟩
    · subst e
      exact (List.length_eq_zero_iff.1 (Nat.le_zero.1 a1)).symm
    · rw [List.take_of_length_le (by omega)] at a2
      exact a2

/-! ### THE WALK -/
set_option maxHeartbeats 800000 in
theorem walk_in (s t : ByteArray) (w : World) (h : s.size + t.size ≤ 1048576) :
    Calls Try.prog 5 #[.string s, .string t] w fun e w' => e = .returned (.bool true) ∧ Below w.heap.size w w' := by
  have hcs := conv_to s
  have hct := conv_to t
  have M1 : Hid (s.size ≤ maxLen) := by show s.size ≤ maxLen; unfold maxLen; omega
  have M2 : Hid (t.size ≤ maxLen) := by show t.size ≤ maxLen; unfold maxLen; omega
  obtain ⟨p, hp⟩ : ∃ p, p = withinB s.data.toList t.data.toList := ⟨_, rfl⟩
  obtain ⟨q, hq⟩ : ∃ q, q = withinB t.data.toList s.data.toList := ⟨_, rfl⟩
  have HP : Hid (p = withinB s.data.toList t.data.toList) := hp
  have HQ : Hid (q = withinB t.data.toList s.data.toList) := hq
  have HW : Hid (withinB s.data.toList s.data.toList = true) := within_self _
  clear hp hq
  go_enter Try.func5, Try.ntmps5
  go_wp2_with fail
  refine (zz11_yes s t _ h).mono ?_
  rintro e w0 ⟨rfl, rfl⟩
  go_wp2_with fail
  have hb1 := bworld_below w0 s
  have hh1 := bworld_has w0 s
  refine (zzWithin_any s _ s.size _ s.data.toList _ M1.out hh1).mono ?_
  rintro e w1 ⟨rfl, m1, hw1⟩
  rw [HW.out]
  have hb1' : Below w0.heap.size w0 w1 := by rw [hw1]; exact below_drewN hb1 _
  clear hw1 hb1 hh1
  go_wp2_with fail
  have hb2 := bworld_below w1 t
  have hh2 := bworld_has w1 t
  refine (zzWithin_any s _ t.size _ t.data.toList _ M1.out hh2).mono ?_
  rintro e w2 ⟨rfl, m2, hw2⟩
  rw [← HP.out]
  have hb2' : Below w0.heap.size w0 w2 := by rw [hw2]; exact below_drewN (hb1'.trans (hb2.mono hb1'.size)) _
  clear hw2 hb2 hh2
  cases p
  · go_wp2
    go_ret
    exact ⟨rfl, hb2'⟩
  go_wp2_with fail
  have hb3 := bworld_below w2 s
  have hh3 := bworld_has w2 s
  refine (zzWithin_any t _ s.size _ s.data.toList _ M2.out hh3).mono ?_
  rintro e w3 ⟨rfl, m3, hw3⟩
  rw [← HQ.out]
  have hb3' : Below w0.heap.size w0 w3 := by rw [hw3]; exact below_drewN (hb2'.trans (hb3.mono hb2'.size)) _
  clear hw3 hb3 hh3
  cases q
  · go_wp2
    go_ret
    exact ⟨rfl, hb3'⟩
  have e : s = t := bytes_inj (within_both HP.out.symm HQ.out.symm)
  subst e
  go_wp2
  go_ret
  exact ⟨by simp, hb3'⟩

set_option maxHeartbeats 400000 in
theorem walk_out (s t : ByteArray) (w : World) (h : 1048576 < s.size + t.size) :
    Calls Try.prog 5 #[.string s, .string t] w fun e w' => e = .returned (.bool true) ∧ Below w.heap.size w w' := by
  go_enter Try.func5, Try.ntmps5
  go_wp2_with fail
  refine (zz11_no s t _ h).mono ?_
  rintro e w0 ⟨rfl, rfl⟩
  go_wp2
  go_ret
  exact ⟨rfl, Below.refl _ _⟩

theorem walk (a0 : ByteArray) (a1 : ByteArray) (w0 : a0.size ≤ maxLen) (w1 : a1.size ≤ maxLen) (w : World) :
    Calls Try.prog 5 #[.string a0, .string a1] w fun e w' => e = .returned (.bool true) ∧ Below w.heap.size w w' := by
  by_cases h : a0.size + a1.size ≤ 1048576
  · exact walk_in a0 a1 w h
  · exact walk_out a0 a1 w (by omega)

/-! ### THE ROW's STEP: WRITTEN OUT: LEAVE IT -/
set_option maxRecDepth 100000 in
theorem lifted (os : Os) (started : os.Started) (H : Type) (enc : TypeId × Value → H) :
    ReturnsInHanded {} Try.checked os 5 .any (Rows.fnWithinPartialOrderSpec.pre6 enc Try.prog Try.f5 Rows.fnWithinPartialOrderRow.domain false) (Rows.fnWithinPartialOrderSpec.post enc Try.prog Try.f5 false true false false) := by
  refine returnsInHanded_of_change (C := Try.checked) own started (by kernel_rfl) Try.func5
    (ChangeSpec.witness6 (enc := enc) (C := Try.checked) false ⟨#[], #[.string ByteArray.empty, .string ByteArray.empty], []⟩ 8 (by kernel_rfl) (by kernel_rfl) (by kernel_rfl) (by kernel_rfl)) ?_
  intro W base args ds gs before hval0 hW hcnd _
  have hval : ∀ (j : Nat) t v, Try.f5.params[j]? = some t → args[j]? = some v → Value.okWide Try.prog W .any base t v := hval0
  have hW' := hW
  obtain ⟨p, q, hA0, hV, rfl, hfz, hnd⟩ := hW
  have hA : DataW.TrodAll enc Try.prog W 0 (fun _ => true) true Try.f5.params.toList args.toList ds p := hA0
  rw [Try.params5] at hA hval
  obtain ⟨v0, vs0, d0, ds0, p0, q0, hargs, rfl, rfl, h0, r0⟩ := trodAll_cons hA
  obtain ⟨v1, vs1, d1, ds1, p1, q1, rfl, rfl, rfl, h1, r1⟩ := trodAll_cons r0
  obtain ⟨rfl, rfl, rfl⟩ := trodAll_nil r1
  obtain rfl : args = #[v0, v1] := by cases args; simp_all
  obtain ⟨rfl, rfl⟩ := trodVars_none hV
  obtain ⟨a0, rfl, rfl, rfl, w0⟩ := open_string Try.underlying9 (hval 0 9 v0 rfl rfl) h0
  obtain ⟨a1, rfl, rfl, rfl, w1⟩ := open_string Try.underlying9 (hval 1 9 v1 rfl rfl) h1
  clear hA0 hval0
  simp only [List.append_nil] at hW'
  refine (walk a0 a1 w0 w1 W).mono fun e W' ⟨he, hg⟩ => ?_
  subst he
  exact ⟨_, rfl, _, _, _, [], _, [], hW', trodAll_mk1 (shut_bool Try.underlying4 _), (trodAll_cons_mk (shut_string Try.underlying9 w0) (trodAll_cons_mk (shut_string Try.underlying9 w1) trodAll_mk0)), rfl, hg.frame _, fun h => by cases h⟩

theorem over : Rows.fnWithinPartialOrderRow.holds Try.pinned (OpenSpec.ofChange Rows.fnWithinPartialOrderSpec) :=
  OpenClaim.holds_of_wide 5 Try.f5 rfl rfl rfl rfl rfl rfl rfl ⟨rfl, rfl, rfl, rfl, rfl⟩ rfl rfl rfl rfl rfl (by kernel_rfl) Try.func5 (by kernel_rfl)
    (of_decide_eq_true (by kernel_rfl)) (by unfold Func.isWrapper; first | (rw [if_pos (by decide +kernel)]; kernel_rfl) | (rw [if_neg (by decide +kernel)]; exact ⟨rfl, rfl⟩))
    (fun os started H enc _ => lifted os started H enc)

/-- ████ THE STATEMENT ████ -/
theorem proved : Rows.FnWithinPartialOrderSaid :=
  over
end Go.Proofs.Qxb6601311a.fnWithinPartialOrder
