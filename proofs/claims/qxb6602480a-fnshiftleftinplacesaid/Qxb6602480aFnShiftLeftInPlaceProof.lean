/-
  A PROOF OF 'Rows.FnShiftLeftInPlaceSaid': the frame is the given shell's; the walk is filled in.
-/
import Derived.Test.Qxb6602480aWalksK
import Derived.Test.Qxb6602480aWalksG
import Derived.Test.Qxb6602480aRows
import Derived.WalkKit
import Derived.ProofKit
import Derived.OpenShut
import Derived.ShutString
import Derived.ChangeOld
import Derived.Below
namespace Go.Proofs.Qxb6602480a.fnShiftLeftInPlace
open Go.ChangeShapes Go.WideShapes Go.ChangeAt Go.RowKit
open Go.ChangeMaps (open_string shut_string)
set_option linter.unusedVariables false

theorem own : ownKnob Try.prog.godebug = none := by kernel_rfl
theorem laidOut : laidOutB Try.prog = true := by kernel_rfl

/-- WHAT THE WALK IS TOLD OF A SLICE OF INTEGERS THAT CAME IN: it is nil; or it leads to a row of 'cap' cells, the numbers 'zs' (the first 'len' are its elements, the rest its spare room), each fitting its kind. -/
def IsRow (k : IntKind) (w : World) (a : Option Addr) (len cap : Nat) (zs : List Int) : Prop :=
  (a = none ∧ len = 0 ∧ cap = 0 ∧ zs = []) ∨
  ∃ x, a = some x ∧ len ≤ cap ∧ cap ≤ maxLen ∧ zs.length = cap ∧ (∀ i, i < zs.length → w.cell? (x.add i) = some (.int k (zs.getD i 0))) ∧ ∀ n ∈ zs, (Lit.int k n).wf = true

/-! ### THE WALK -/
theorem run_make_next (w : World) (n : Nat) (hn : n + 1 ≤ 1048576) :
    (Instr.makeSlice 22 (.int .i64 ((n : Int) + 1)) (.int .i64 ((n : Int) + 1))).run Try.prog w = .ok (.slice (some ⟨w.heap.size, 0, none⟩) (n + 1) (n + 1)) (w.alloc (.cells (madeCells (Value.int .u64 0).cells (n + 1)) 30)) := by
  have h := run_make_u64 w (n + 1) hn
  rw [show (((n + 1 : Nat)) : Int) = (n : Int) + 1 from by omega] at h
  exact h
/-- The world behind a 'make' of n words. -/
theorem made (w1 : World) (n : Nat) : ∃ w2, w1.alloc (Obj.cells (madeCells #[Value.int IntKind.u64 0] n) 30) = w2 ∧ Below w1.heap.size w1 w2 ∧ Own w2 w1.heap.size (List.replicate n 0) ∧ w2.heap.size = w1.heap.size + 1 :=
  ⟨_, rfl, (Below.refl _ _).alloc (Nat.le_refl _) _, own_made w1 n, by simp⟩
theorem take_all (ms : List Int) (n : Nat) (h : n = ms.length) : ms.take n = ms := by subst h; simp
/-- 'lwEqual' of two rows of one's own that hold the same words. -/
theorem equal_own (g g' n ca cb : Nat) (xs : List Int) (w : World) (hn' : n ≤ 65537) (hx : n = xs.length) (o1 : Own w g xs) (o2 : Own w g' xs) :
    Calls Try.prog 21 #[.slice (some ⟨g, 0, none⟩) n ca, .slice (some ⟨g', 0, none⟩) n cb] w fun e w' => e = .returned (.bool true) ∧ ∀ B, Below B w w' := by
  refine (equal_any g 0 ca g' 0 cb n xs xs w hn' hx hx o1.reads o2.reads).mono ?_
  rintro e w' ⟨rfl, m, rfl⟩
  exact ⟨by simp, fun B => below_drewN (Below.refl _ _) _⟩
theorem copy_wide (ms : List Int) (n : Nat) (h : n = ms.length) : (copyTo ms n (n + 1)).take n = ms := by
  subst h; simp [copyTo]
theorem copy_full (ms : List Int) (n : Nat) (h : n = ms.length) : copyTo ms n n = ms := by
  subst h; exact copyTo_all ms

set_option maxHeartbeats 1600000 in
/-- At most 65536 words, a shift below 64. -/
theorem walk_in (a : Option Addr) (n c : Nat) (ms : List Int) (s : Nat) (w : World) (hn' : n ≤ 65536) (hs : s < 64) (hsrc : Src w a n c ms) (hw : IsWords ms) :
    Calls Try.prog 10 #[.slice a n c, .int .u64 s] w fun e w' => e = .returned (.bool true) ∧ Below w.heap.size w w' := by
  have HM : Hid (n = ms.length) := hsrc.1
  go_enter Try.func10, Try.ntmps10
  go_wp2_with fail
  refine (zz27_yes _ _ _ _ _ (by omega)).mono ?_
  rintro e w0 ⟨rfl, rfl⟩
  go_wp2_with fail
  refine (clone_src a n c ms _ (by omega) hsrc).mono ?_
  rintro e w1 ⟨a1, rfl, hb1, hm1⟩
  clear hsrc
  -- out
  have hmk := run_make_u64 w1 n (by omega)
  go_wp2_with fail
  clear hmk
  obtain ⟨w2, e2, hb2, o2, hs2⟩ := made w1 n
  rw [e2]
  clear e2
  refine (zzShift_apart w1.heap.size n n (List.replicate n 0) a1 n n ms s w2 (by omega) (by simp) (Nat.le_refl _) (by omega) hs hw o2 (hm1.below hb2 (Nat.le_refl _)) (.inr (Nat.le_refl _))).mono ?_
  rintro e w3 ⟨rfl, o3, p3⟩
  have hm3 := (hm1.below hb2 (Nat.le_refl _)).only p3 (.inl (Nat.le_refl _))
  have HS3 : Hid (w3.heap.size = w1.heap.size + 1) := p3.size.trans hs2
  have hb3 : Below w0.heap.size w0 w3 := (hb1.trans (hb2.mono hb1.size)).trans (p3.below hb1.size)
  clear hb2 o2 hs2 p3
  -- same
  have hmk := run_make_u64 w3 n (by omega)
  go_wp2_with fail
  clear hmk
  obtain ⟨w4, e4, hb4, o4, hs4⟩ := made w3 n
  rw [e4]
  clear e4
  have HS4 : Hid (w4.heap.size = w3.heap.size + 1) := hs4
  clear hs4
  have hm4 := hm3.below hb4 (by have := HS3.out; omega)
  have o3' := o3.below hb4 (by have := HS3.out; omega)
  have hb4' : Below w0.heap.size w0 w4 := hb3.trans (hb4.mono (by have := hb3.size; omega))
  clear hm1 hm3 o3 hb4 hb3
  go_loopw [8] (fun is wr => ∃ k : Nat, k ≤ n ∧ is = .int .i64 k ∧ Own wr w3.heap.size (copyTo ms k n) ∧ Only w3.heap.size (w3.heap.size + 1) w4 wr) (fun i _ => n - (intOf i).toNat)
  case atStart => exact ⟨0, Nat.zero_le _, rfl, by rw [copyTo_zero]; exact o4, Only.refl _ _ _⟩
  case round =>
  obtain ⟨k, hk, rfl, hol, honly⟩ := hrel
  have hmr := hm4.only honly (.inl (by have := HS3.out; omega))
  by_cases hlt : k < n
  · obtain ⟨g, rfl, _, _, hc⟩ := hmr.cell k hlt
    rw [Nat.zero_add] at hc
    have hcz := hol.cell k (by rw [copyTo_len _ _ _ hk (by have := HM.out; omega)]; exact hlt)
    have hf := hol.frozen k
    go_wp2
    go_roundw
    case rel => exact ⟨k + 1, by omega, by go_num, by rw [← copyTo_set _ _ _ hlt (by have := HM.out; omega)]; exact hol.set _ _, honly.setCell (Nat.le_refl _) (Nat.lt_succ_self _) _⟩
    case measure => simp [intOf]; omega
  have hkn : k = n := by omega
  subst hkn
  rw [copy_full ms k HM.out] at hol
  go_wp2_with fail
  refine (zzShift_self w3.heap.size k k ms k k s wr (by omega) HM.out (Nat.le_refl _) (by omega) hs (by rw [take_all ms k HM.out]; exact hw) hol).mono ?_
  rintro e w5 ⟨rfl, o5, p5⟩
  rw [take_all ms k HM.out] at o5
  have o3'' := (o3'.only honly (.inl (by have := HS3.out; omega))).only p5 (.inl (by have := HS3.out; omega))
  have hm5 := hmr.only p5 (.inl (by have := HS3.out; omega))
  have hb5 : Below w0.heap.size w0 w5 := (hb4'.trans (honly.below (by have := hb1.size; have := HS3.out; omega))).trans (p5.below (by have := hb1.size; have := HS3.out; omega))
  have HS5 : Hid (w5.heap.size = w1.heap.size + 2) := by have := p5.size; have := honly.size; have := HS3.out; have := HS4.out; show w5.heap.size = w1.heap.size + 2; omega
  clear hmr hm4 o3' hb4' honly p5 hol o4 hlt
  go_wp2_with fail
  refine (equal_own w3.heap.size w1.heap.size k k k (shl ms s k) w5 (by omega) (shl_len _ _ _).symm o5 o3'').mono ?_
  rintro e w6 ⟨rfl, hb6⟩
  have hm6 := hm5.below (hb6 w1.heap.size) (Nat.le_refl _)
  have hb6' : Below w0.heap.size w0 w6 := hb5.trans (hb6 _)
  have HS6 : Hid (w1.heap.size ≤ w6.heap.size) := by have := (hb6 0).size; have := HS5.out; show w1.heap.size ≤ w6.heap.size; omega
  clear hm5 o5 o3'' hb5 hb6
  -- outWide
  have hmk := run_make_next w6 k (by omega)
  go_wp2_with fail
  clear hmk
  obtain ⟨w7, e7, hb7, o7, hs7⟩ := made w6 (k + 1)
  rw [e7]
  clear e7
  have hm7 := hm6.below hb7 HS6.out
  refine (zzShift_apart w6.heap.size (k + 1) (k + 1) (List.replicate (k + 1) 0) a1 k k ms s w7 (by omega) (by simp) (by omega) (by omega) hs hw o7 hm7 (.inr HS6.out)).mono ?_
  rintro e w8 ⟨rfl, o8, p8⟩
  have hm8 := hm7.only p8 (.inl HS6.out)
  have HS8 : Hid (w8.heap.size = w6.heap.size + 1) := p8.size.trans hs7
  have hb8 : Below w0.heap.size w0 w8 := (hb6'.trans (hb7.mono hb6'.size)).trans (p8.below hb6'.size)
  clear hb7 o7 hs7 p8 hm7 hm6 hb6'
  -- buf
  have hmk := run_make_next w8 k (by omega)
  go_wp2_with fail
  clear hmk
  obtain ⟨w9, e9, hb9, o9, hs9⟩ := made w8 (k + 1)
  rw [e9]
  clear e9 hs9
  have hm9 := hm8.below hb9 (by have := HS8.out; have := HS6.out; omega)
  have o8' := o8.below hb9 (by have := HS8.out; omega)
  have hb9' : Below w0.heap.size w0 w9 := hb8.trans (hb9.mono hb8.size)
  have HS9 : Hid (w0.heap.size ≤ w8.heap.size) := hb8.size
  clear hm8 o8 hb9 hb8
  go_loopw [11] (fun is wr => ∃ j : Nat, j ≤ k ∧ is = .int .i64 j ∧ Own wr w8.heap.size (copyTo ms j (k + 1)) ∧ Only w8.heap.size (w8.heap.size + 1) w9 wr) (fun i _ => k - (intOf i).toNat)
  case atStart => exact ⟨0, Nat.zero_le _, rfl, by rw [copyTo_zero]; exact o9, Only.refl _ _ _⟩
  case round =>
  obtain ⟨j, hj, rfl, hol, honly⟩ := hrel
  have hmr := hm9.only honly (.inl (by have := HS8.out; have := HS6.out; omega))
  by_cases hlt : j < k
  · obtain ⟨g, rfl, _, _, hc⟩ := hmr.cell j hlt
    rw [Nat.zero_add] at hc
    have hcz := hol.cell j (by rw [copyTo_len _ _ _ (by omega) (by have := HM.out; omega)]; omega)
    have hf := hol.frozen j
    go_wp2
    go_roundw
    case rel => exact ⟨j + 1, by omega, by go_num, by rw [← copyTo_set _ _ _ (by omega) (by have := HM.out; omega)]; exact hol.set _ _, honly.setCell (Nat.le_refl _) (Nat.lt_succ_self _) _⟩
    case measure => simp [intOf]; omega
  have hjk : j = k := by omega
  subst hjk
  go_wp2_with fail
  refine (zzShift_self w8.heap.size (j + 1) (j + 1) (copyTo ms j (j + 1)) j (j + 1) s wr (by omega) (copyTo_len _ _ _ (by omega) (by have := HM.out; omega)).symm (by omega) (by omega) hs (by rw [copy_wide ms j HM.out]; exact hw) hol).mono ?_
  rintro e w10 ⟨rfl, o10, p10⟩
  rw [copy_wide ms j HM.out] at o10
  have o8'' := (o8'.only honly (.inl (by have := HS8.out; omega))).only p10 (.inl (by have := HS8.out; omega))
  have hb10 : Below w0.heap.size w0 w10 := (hb9'.trans (honly.below HS9.out)).trans (p10.below HS9.out)
  clear hmr hm9 o8' hb9' honly p10 hol o9 hlt
  go_wp2_with fail
  refine (equal_own w8.heap.size w6.heap.size (j + 1) (j + 1) (j + 1) (shl ms s (j + 1)) w10 (by omega) (shl_len _ _ _).symm o10 o8'').mono ?_
  rintro e w11 ⟨rfl, hb11⟩
  go_wp2
  go_ret
  exact ⟨rfl, hb10.trans (hb11 _)⟩

set_option maxHeartbeats 400000 in
/-- Too long, or shifted too far. -/
theorem walk_out (a0 : Option Addr) (n0 c0 : Nat) (s : Int) (w : World) (h : 65536 < n0 ∨ 64 ≤ s) :
    Calls Try.prog 10 #[.slice a0 n0 c0, .int .u64 s] w fun e w' => e = .returned (.bool true) ∧ Below w.heap.size w w' := by
  go_enter Try.func10, Try.ntmps10
  go_wp2_with fail
  refine (zz27_any _ _ _ _ _).mono ?_
  rintro e w1 ⟨b, rfl, rfl⟩
  cases b
  · go_wp2
    go_ret
    exact ⟨rfl, Below.refl _ _⟩
  · by_cases h0 : 65536 < n0
    · go_wp2
      go_ret
      exact ⟨rfl, Below.refl _ _⟩
    · have h1 : 64 ≤ s := by omega
      clear h
      go_wp2
      go_ret
      exact ⟨rfl, Below.refl _ _⟩

theorem words_nil : IsWords [] := fun j => by simp
/-- A slice that came in can be cloned. -/
theorem src_of {w : World} {a : Option Addr} {len cap : Nat} {zs : List Int} (h : IsRow .u64 w a len cap zs) : ∃ ms, Src w a len cap ms ∧ IsWords ms := by
  rcases h with ⟨rfl, rfl, rfl, rfl⟩ | ⟨x, rfl, hl, hm, hz, hc, hwf⟩
  · exact ⟨[], ⟨rfl, .inl ⟨rfl, rfl, rfl⟩⟩, words_nil⟩
  · by_cases h0 : len = 0
    · exact ⟨[], ⟨h0, .inr (.inl ⟨x, rfl, h0⟩)⟩, words_nil⟩
    · obtain ⟨b, off, rfl, hb, hr, hw, hx⟩ := row_open (by omega) hl hz hc hwf
      exact ⟨_, ⟨hx.symm, .inr (.inr ⟨b, off, rfl, hb, hr⟩)⟩, hw⟩

theorem walk (a0 : Option Addr) (len0 cap0 : Nat) (z0 : List Int) (a1 : Int) (w : World) (w0 : IsRow .u64 w a0 len0 cap0 z0) (w1 : (Lit.int .u64 a1).wf = true) :
    Calls Try.prog 10 #[.slice a0 len0 cap0, .int .u64 a1] w fun e w' => e = .returned (.bool true) ∧ Below w.heap.size w w' := by
  by_cases h : 65536 < len0 ∨ 64 ≤ a1
  · exact walk_out a0 len0 cap0 a1 w h
  · obtain ⟨h1, h2⟩ := bounds_u64 w1
    obtain ⟨s, rfl⟩ := Int.eq_ofNat_of_zero_le h1
    obtain ⟨ms, hsrc, hw⟩ := src_of w0
    exact walk_in a0 len0 cap0 ms s w (by omega) (by omega) hsrc hw

/-! ### THE ROW's STEP: WRITTEN OUT: LEAVE IT -/
set_option maxRecDepth 100000 in
theorem lifted (os : Os) (started : os.Started) (H : Type) (enc : TypeId × Value → H) :
    ReturnsInHanded {} Try.checked os 10 .any (Rows.fnShiftLeftInPlaceSpec.pre6 enc Try.prog Try.f10 Rows.fnShiftLeftInPlaceRow.domain false) (Rows.fnShiftLeftInPlaceSpec.post enc Try.prog Try.f10 false true false false) := by
  refine returnsInHanded_of_change (C := Try.checked) own started (by kernel_rfl) Try.func10
    (ChangeSpec.witness6 (enc := enc) (C := Try.checked) false ⟨#[], #[.slice none 0 0, .int .u64 0], []⟩ 8 (by kernel_rfl) (by kernel_rfl) (by kernel_rfl) (by kernel_rfl)) ?_
  intro W base args ds gs before hval0 hW hcnd _
  have hval : ∀ (j : Nat) t v, Try.f10.params[j]? = some t → args[j]? = some v → Value.okWide Try.prog W .any base t v := hval0
  have hW' := hW
  obtain ⟨p, q, hA0, hV, rfl, hfz, hnd⟩ := hW
  have hA : DataW.TrodAll enc Try.prog W 0 (fun _ => true) true Try.f10.params.toList args.toList ds p := hA0
  rw [Try.params10] at hA hval
  obtain ⟨v0, vs0, d0, ds0, p0, q0, hargs, rfl, rfl, h0, r0⟩ := trodAll_cons hA
  obtain ⟨v1, vs1, d1, ds1, p1, q1, rfl, rfl, rfl, h1, r1⟩ := trodAll_cons r0
  obtain ⟨rfl, rfl, rfl⟩ := trodAll_nil r1
  obtain rfl : args = #[v0, v1] := by cases args; simp_all
  obtain ⟨rfl, rfl⟩ := trodVars_none hV
  obtain ⟨a0, len0, cap0, rfl⟩ := okWide_slice Try.underlying22 (hval 0 22 v0 rfl rfl)
  have k0 := h0
  have lt0 : ∀ x ∈ p0, x.block < W.heap.size := by obtain ⟨m, hm⟩ := k0; exact DataW.trod_lt m _ _ _ hm
  obtain ⟨z0, w0⟩ : ∃ zs, IsRow .u64 W a0 len0 cap0 zs := by
    obtain ⟨fuel, hf⟩ := h0
    rcases open_ints Try.underlying22 Try.underlying30 (by kernel_rfl) hf with ⟨hcs, _⟩ | ⟨x, l, c, zs, hcs, _, hl, hm, hz, _, hcell, hwz⟩
    · simp [Value.cells] at hcs
      obtain ⟨rfl, rfl, rfl⟩ := hcs
      exact ⟨[], .inl ⟨rfl, rfl, rfl, rfl⟩⟩
    · simp [Value.cells] at hcs
      obtain ⟨rfl, rfl, rfl⟩ := hcs
      exact ⟨zs, .inr ⟨_, rfl, hl, hm, by simpa using hz, hcell, hwz⟩⟩
  obtain ⟨a1, rfl, rfl, rfl, w1⟩ := open_int Try.underlying33 (hval 1 33 v1 rfl rfl) h1
  clear hA0 hval0
  refine (walk a0 len0 cap0 z0 a1 W w0 w1).mono fun e W' ⟨he, bel⟩ => ?_
  subst he
  exact ⟨_, rfl, _, _, _, [], _, [], hW', trodAll_mk1 (shut_bool Try.underlying4 _), (trodAll_cons_mk (Below.trod laidOut (by kernel_rfl) (of_decide_eq_true (by kernel_rfl)) k0 bel lt0) (trodAll_cons_mk (shut_int Try.underlying33 w1) trodAll_mk0)), rfl, bel.frame _, fun h => by cases h⟩

theorem over : Rows.fnShiftLeftInPlaceRow.holds Try.pinned (OpenSpec.ofChange Rows.fnShiftLeftInPlaceSpec) :=
  OpenClaim.holds_of_wide 10 Try.f10 rfl rfl rfl rfl rfl rfl rfl ⟨rfl, rfl, rfl, rfl, rfl⟩ rfl rfl rfl rfl rfl (by kernel_rfl) Try.func10 (by kernel_rfl)
    (of_decide_eq_true (by kernel_rfl)) (by unfold Func.isWrapper; first | (rw [if_pos (by decide +kernel)]; kernel_rfl) | (rw [if_neg (by decide +kernel)]; exact ⟨rfl, rfl⟩))
    (fun os started H enc _ => lifted os started H enc)

/-- ████ THE STATEMENT ████ -/
theorem proved : Rows.FnShiftLeftInPlaceSaid := over
end Go.Proofs.Qxb6602480a.fnShiftLeftInPlace
