/-
  A PROOF OF 'Rows.FnShiftLeftMatchesDoublingSaid': the frame is the given shell's; the walk is filled in.
-/
import Derived.Test.Qxb6602480aWalksK
import Derived.Test.Qxb6602480aWalksG
import Derived.Test.Qxb6602480aRows
import Derived.WalkKit
import Derived.ProofKit
import Derived.OpenShut
import Derived.ShutString
import Derived.ChangeOld
import Derived.Below
namespace Go.Proofs.Qxb6602480a.fnShiftLeftMatchesDoubling
open Go.ChangeShapes Go.WideShapes Go.ChangeAt Go.RowKit
open Go.ChangeMaps (open_string shut_string)
set_option linter.unusedVariables false

theorem own : ownKnob Try.prog.godebug = none := by kernel_rfl
theorem laidOut : laidOutB Try.prog = true := by kernel_rfl

/-- WHAT THE WALK IS TOLD OF A SLICE OF INTEGERS THAT CAME IN: it is nil; or it leads to a row of 'cap' cells, the numbers 'zs' (the first 'len' are its elements, the rest its spare room), each fitting its kind. -/
def IsRow (k : IntKind) (w : World) (a : Option Addr) (len cap : Nat) (zs : List Int) : Prop :=
  (a = none ∧ len = 0 ∧ cap = 0 ∧ zs = []) ∨
  ∃ x, a = some x ∧ len ≤ cap ∧ cap ≤ maxLen ∧ zs.length = cap ∧ (∀ i, i < zs.length → w.cell? (x.add i) = some (.int k (zs.getD i 0))) ∧ ∀ n ∈ zs, (Lit.int k n).wf = true

/-! ### SMALL LAWS -/
/-- The world behind a 'make' of n words. -/
theorem made (w1 : World) (n : Nat) : ∃ w2, w1.alloc (Obj.cells (madeCells #[Value.int IntKind.u64 0] n) 30) = w2 ∧ Below w1.heap.size w1 w2 ∧ Own w2 w1.heap.size (List.replicate n 0) ∧ w2.heap.size = w1.heap.size + 1 :=
  ⟨_, rfl, (Below.refl _ _).alloc (Nat.le_refl _) _, own_made w1 n, by simp⟩
theorem src_below {w w' : World} {a : Option Addr} {n c : Nat} {xs : List Int} (h : Src w a n c xs) (hb : Below w.heap.size w w') : Src w' a n c xs := by
  obtain ⟨h0, h1 | h1 | ⟨b, off, e, hlt, hr⟩⟩ := h
  · exact ⟨h0, .inl h1⟩
  · exact ⟨h0, .inr (.inl h1)⟩
  · exact ⟨h0, .inr (.inr ⟨b, off, e, Nat.lt_of_lt_of_le hlt hb.size, hr.below hb hlt⟩)⟩
/-- The words to be doubled: shifted by nought. -/
theorem copy_shl {ms : List Int} (hw : IsWords ms) (n nz : Nat) (h : n = ms.length) (h1 : n ≤ nz) : copyTo ms n nz = shl ms 0 nz := by
  refine same_eq (n := nz) ?_ (copyTo_len ms n nz h1 (by omega)).symm (shl_len _ _ _).symm
  intro j hj
  rw [shl_zero hw nz j hj]
  subst h
  unfold copyTo
  rw [List.take_length]
  by_cases hlt : j < ms.length
  · rw [List.getElem?_append_left hlt]
  · rw [List.getElem?_append_right (by omega), List.getElem?_eq_none (l := ms) (by omega), List.getElem?_replicate]
    split <;> rfl

/-! ### THE WALK -/
set_option maxHeartbeats 3200000 in
/-- At most 32768 words, one more at the most to lay them in, a shift below 64. -/
theorem walk_in (a0 : Option Addr) (nz c0 : Nat) (zs : List Int) (a1 : Option Addr) (n c1 : Nat) (ms : List Int) (s : Nat) (w : World) (h0 : nz ≤ 32769) (h1 : n ≤ 32768) (hn1 : n ≤ nz) (hn2 : nz ≤ n + 1) (hs : s < 64)
    (hz : Src w a0 nz c0 zs) (hm : Src w a1 n c1 ms) (hw : IsWords ms) :
    Calls Try.prog 9 #[.slice a0 nz c0, .slice a1 n c1, .int .u64 s] w fun e w' => e = .returned (.bool true) ∧ Below w.heap.size w w' := by
  have HM : Hid (n = ms.length) := hm.1
  have hcase : (((nz : Int) != (n : Int)) = false) ∨ (((nz : Int) != (n : Int)) = true ∧ ((nz : Int) != (n : Int) + 1) = false) := by
    by_cases e : nz = n
    · exact .inl (by simp [e])
    · exact .inr ⟨by simp; omega, by simp; omega⟩
  have N1 : Hid (n ≤ nz) := hn1
  have N2 : Hid (nz ≤ n + 1) := hn2
  clear hn1 hn2
  rcases hcase with hA | ⟨hA, hB⟩
  all_goals
    go_enter Try.func9, Try.ntmps9
    go_wp2_with fail
    refine (zz24_yes _ _ _ _ _ _ _ _ (by omega) (by omega)).mono ?_
    rintro e w0 ⟨rfl, rfl⟩
    go_wp2_with fail
    refine (clone_src a0 nz c0 zs _ (by omega) hz).mono ?_
    rintro e w1 ⟨az, rfl, hb1, hz1⟩
    have hm1 := src_below hm hb1
    go_wp2_with fail
    refine (clone_src a1 n c1 ms _ (by omega) hm1).mono ?_
    rintro e w2 ⟨am, rfl, hb2, hm2⟩
    go_wp2_with fail
    refine (clone_src am n n ms _ (by omega) (hm2.src (fun h _ => h))).mono ?_
    rintro e w3 ⟨ab, rfl, hb3, hk3⟩
    have hz3 := (hz1.below hb2 (Nat.le_refl _)).below hb3 hb2.size
    have hm3 := hm2.below hb3 (Nat.le_refl _)
    have hb3' : Below w0.heap.size w0 w3 := (hb1.trans (hb2.mono hb1.size)).trans (hb3.mono (Nat.le_trans hb1.size hb2.size))
    have S1 : Hid (w0.heap.size ≤ w1.heap.size) := hb1.size
    have S2 : Hid (w1.heap.size ≤ w2.heap.size) := hb2.size
    have S3 : Hid (w2.heap.size ≤ w3.heap.size) := hb3.size
    clear hb1 hb2 hb3 hz1 hm2 hm1
    -- want
    have hmk := run_make_u64 w3 nz (by omega)
    go_wp2_with fail
    clear hmk
    obtain ⟨w4, e4, hb4, o4, hs4⟩ := made w3 nz
    rw [e4]
    clear e4 hs4
    have hz4 := hz3.below hb4 (Nat.le_trans S2.out S3.out)
    have hm4 := hm3.below hb4 S3.out
    have hk4 := hk3.below hb4 (Nat.le_refl _)
    have hb4' : Below w0.heap.size w0 w4 := hb3'.trans (hb4.mono hb3'.size)
    clear hz3 hm3 hk3 hb3' hb4 hz hm
    go_loopw [9] (fun is wr => ∃ k : Nat, k ≤ n ∧ is = .int .i64 k ∧ Own wr w3.heap.size (copyTo ms k nz) ∧ Only w3.heap.size (w3.heap.size + 1) w4 wr) (fun i _ => n - (intOf i).toNat)
    case atStart => exact ⟨0, Nat.zero_le _, rfl, by rw [copyTo_zero]; exact o4, Only.refl _ _ _⟩
    case round =>
      obtain ⟨k, hk, rfl, hol, honly⟩ := hrel
      have hmr := hm4.only honly (.inl S3.out)
      by_cases hlt : k < n
      · obtain ⟨g, rfl, _, _, hc⟩ := hmr.cell k hlt
        rw [Nat.zero_add] at hc
        have hcz := hol.cell k (by have := N1.out; rw [copyTo_len _ _ _ (by omega) (by have := HM.out; omega)]; omega)
        have hf := hol.frozen k
        have hkz : k < nz := by have := N1.out; omega
        go_wp2
        go_roundw
        case rel => exact ⟨k + 1, by omega, by go_num, by have := N1.out; rw [← copyTo_set _ _ _ (by omega) (by have := HM.out; omega)]; exact hol.set _ _, honly.setCell (Nat.le_refl _) (Nat.lt_succ_self _) _⟩
        case measure => simp [intOf]; omega
      · have hkn : k = n := by omega
        have HKN : Hid (k = n) := hkn
        rw [hkn, copy_shl hw n nz HM.out N1.out] at hol
        clear hkn hmr
        go_wp2_with fail
        go_loopw [10] (fun is wq => ∃ j : Nat, j ≤ s ∧ is = .int .u64 j ∧ Own wq w3.heap.size (shl ms j nz) ∧ Only w3.heap.size (w3.heap.size + 1) w4 wq) (fun i _ => s - (intOf i).toNat)
        case atStart => exact ⟨0, Nat.zero_le _, rfl, hol, honly⟩
        case round =>
          obtain ⟨j, hj, rfl, hol2, honly2⟩ := hrel
          by_cases hjs : j < s
          · go_wp2_with fail
            refine (double_own w3.heap.size nz nz (shl ms j nz) _ (by omega) (shl_len _ _ _).symm (shl_words hw j nz (by omega)) hol2).mono ?_
            rintro e w5 ⟨rfl, o5, p5⟩
            rw [dbl_shl hw j nz (by omega)] at o5
            go_wp2
            go_roundw
            case rel => exact ⟨j + 1, by omega, by go_num, o5, honly2.trans p5⟩
            case measure => simp [intOf]; omega
          · have hjs' : j = s := by omega
            rw [hjs'] at hol2
            clear hol honly hjs'
            have hz5 := hz4.only honly2 (.inl (Nat.le_trans S2.out S3.out))
            have hm5 := hm4.only honly2 (.inl S3.out)
            have hk5 := hk4.only honly2 (.inl (Nat.le_refl _))
            have hb5 : Below w0.heap.size w0 _ := hb4'.trans (honly2.below (Nat.le_trans S1.out (Nat.le_trans S2.out S3.out)))
            clear hz4 hm4 hk4 hb4' honly2
            go_wp2_with fail
            refine (zzShift_holds az am nz nz n n zs ms s _ (by omega) N1.out N2.out hs hw hz5 hm5 (.inl (Nat.le_refl _))).mono ?_
            rintro e w6 ⟨rfl, hz6, p6⟩
            have o6 := hol2.only p6 (.inr (Nat.le_trans S2.out S3.out))
            have hm6 := hm5.only p6 (.inr (Nat.le_refl _))
            have hk6 := hk5.only p6 (.inr S2.out)
            have hb6 : Below w0.heap.size w0 w6 := hb5.trans (p6.below (Nat.le_refl _))
            have hw6 : Holds w6 w3.heap.size (w3.heap.size + 1) (some ⟨w3.heap.size, 0, none⟩) nz (shl ms s nz) := ⟨(shl_len _ _ _).symm, .inr ⟨_, rfl, Nat.le_refl _, Nat.lt_succ_self _, o6⟩⟩
            clear hz5 hm5 hk5 hb5 p6 o6 hol2
            go_wp2_with fail
            refine (equal_holds az (some ⟨w3.heap.size, 0, none⟩) nz nz nz (shl ms s nz) w6 (by omega) hz6 hw6).mono ?_
            rintro e w7 ⟨rfl, m7, rfl⟩
            go_wp2_with fail
            refine (equal_holds am ab n n n ms _ (by omega) (by exact hm6) (by exact hk6)).mono ?_
            rintro e w8 ⟨rfl, m8, rfl⟩
            go_wp2
            go_ret
            exact ⟨rfl, below_drewN hb6 _⟩

set_option maxHeartbeats 400000 in
/-- Too long, of lengths that do not fit, or shifted too far. -/
theorem walk_out (a0 : Option Addr) (n0 c0 : Nat) (a1 : Option Addr) (n1 c1 : Nat) (s : Int) (w : World) (h : 32769 < n0 ∨ 32768 < n1 ∨ 64 ≤ s ∨ n0 < n1 ∨ n1 + 1 < n0) :
    Calls Try.prog 9 #[.slice a0 n0 c0, .slice a1 n1 c1, .int .u64 s] w fun e w' => e = .returned (.bool true) ∧ Below w.heap.size w w' := by
  go_enter Try.func9, Try.ntmps9
  go_wp2_with fail
  refine (zz24_any _ _ _ _ _ _ _ _).mono ?_
  rintro e w1 ⟨b, rfl, rfl⟩
  cases b
  · go_wp2
    go_ret
    exact ⟨rfl, Below.refl _ _⟩
  · by_cases h0 : 32769 < n0
    · go_wp2
      go_ret
      exact ⟨rfl, Below.refl _ _⟩
    by_cases h1 : 32768 < n1
    · go_wp2
      go_ret
      exact ⟨rfl, Below.refl _ _⟩
    by_cases h2 : 64 ≤ s
    · go_wp2
      go_ret
      exact ⟨rfl, Below.refl _ _⟩
    · have h3 : ((n0 : Int) != (n1 : Int)) = true := by simp; omega
      have h4 : ((n0 : Int) != (n1 : Int) + 1) = true := by simp; omega
      clear h
      go_wp2
      go_ret
      exact ⟨rfl, Below.refl _ _⟩

theorem words_nil : IsWords [] := fun j => by simp
/-- A slice that came in can be cloned. -/
theorem src_of {w : World} {a : Option Addr} {len cap : Nat} {zs : List Int} (h : IsRow .u64 w a len cap zs) : ∃ ms, Src w a len cap ms ∧ IsWords ms := by
  rcases h with ⟨rfl, rfl, rfl, rfl⟩ | ⟨x, rfl, hl, hm, hz, hc, hwf⟩
  · exact ⟨[], ⟨rfl, .inl ⟨rfl, rfl, rfl⟩⟩, words_nil⟩
  · by_cases h0 : len = 0
    · exact ⟨[], ⟨h0, .inr (.inl ⟨x, rfl, h0⟩)⟩, words_nil⟩
    · obtain ⟨b, off, rfl, hb, hr, hw, hx⟩ := row_open (by omega) hl hz hc hwf
      exact ⟨_, ⟨hx.symm, .inr (.inr ⟨b, off, rfl, hb, hr⟩)⟩, hw⟩

theorem walk (a0 : Option Addr) (len0 cap0 : Nat) (z0 : List Int) (a1 : Option Addr) (len1 cap1 : Nat) (z1 : List Int) (a2 : Int) (w : World) (w0 : IsRow .u64 w a0 len0 cap0 z0) (w1 : IsRow .u64 w a1 len1 cap1 z1) (w2 : (Lit.int .u64 a2).wf = true) :
    Calls Try.prog 9 #[.slice a0 len0 cap0, .slice a1 len1 cap1, .int .u64 a2] w fun e w' => e = .returned (.bool true) ∧ Below w.heap.size w w' := by
  by_cases h : 32769 < len0 ∨ 32768 < len1 ∨ 64 ≤ a2 ∨ len0 < len1 ∨ len1 + 1 < len0
  · exact walk_out a0 len0 cap0 a1 len1 cap1 a2 w h
  · obtain ⟨h1, h2⟩ := bounds_u64 w2
    obtain ⟨s, rfl⟩ := Int.eq_ofNat_of_zero_le h1
    obtain ⟨zs, hz, _⟩ := src_of w0
    obtain ⟨ms, hm, hw⟩ := src_of w1
    exact walk_in a0 len0 cap0 zs a1 len1 cap1 ms s w (by omega) (by omega) (by omega) (by omega) (by omega) hz hm hw

/-! ### THE ROW's STEP: WRITTEN OUT: LEAVE IT -/
set_option maxRecDepth 100000 in
theorem lifted (os : Os) (started : os.Started) (H : Type) (enc : TypeId × Value → H) :
    ReturnsInHanded {} Try.checked os 9 .any (Rows.fnShiftLeftMatchesDoublingSpec.pre6 enc Try.prog Try.f9 Rows.fnShiftLeftMatchesDoublingRow.domain false) (Rows.fnShiftLeftMatchesDoublingSpec.post enc Try.prog Try.f9 false true false false) := by
  refine returnsInHanded_of_change (C := Try.checked) own started (by kernel_rfl) Try.func9
    (ChangeSpec.witness6 (enc := enc) (C := Try.checked) false ⟨#[], #[.slice none 0 0, .slice none 0 0, .int .u64 0], []⟩ 8 (by kernel_rfl) (by kernel_rfl) (by kernel_rfl) (by kernel_rfl)) ?_
  intro W base args ds gs before hval0 hW hcnd _
  have hval : ∀ (j : Nat) t v, Try.f9.params[j]? = some t → args[j]? = some v → Value.okWide Try.prog W .any base t v := hval0
  have hW' := hW
  obtain ⟨p, q, hA0, hV, rfl, hfz, hnd⟩ := hW
  have hA : DataW.TrodAll enc Try.prog W 0 (fun _ => true) true Try.f9.params.toList args.toList ds p := hA0
  rw [Try.params9] at hA hval
  obtain ⟨v0, vs0, d0, ds0, p0, q0, hargs, rfl, rfl, h0, r0⟩ := trodAll_cons hA
  obtain ⟨v1, vs1, d1, ds1, p1, q1, rfl, rfl, rfl, h1, r1⟩ := trodAll_cons r0
  obtain ⟨v2, vs2, d2, ds2, p2, q2, rfl, rfl, rfl, h2, r2⟩ := trodAll_cons r1
  obtain ⟨rfl, rfl, rfl⟩ := trodAll_nil r2
  obtain rfl : args = #[v0, v1, v2] := by cases args; simp_all
  obtain ⟨rfl, rfl⟩ := trodVars_none hV
  obtain ⟨a0, len0, cap0, rfl⟩ := okWide_slice Try.underlying22 (hval 0 22 v0 rfl rfl)
  have k0 := h0
  have lt0 : ∀ x ∈ p0, x.block < W.heap.size := by obtain ⟨m, hm⟩ := k0; exact DataW.trod_lt m _ _ _ hm
  obtain ⟨z0, w0⟩ : ∃ zs, IsRow .u64 W a0 len0 cap0 zs := by
    obtain ⟨fuel, hf⟩ := h0
    rcases open_ints Try.underlying22 Try.underlying30 (by kernel_rfl) hf with ⟨hcs, _⟩ | ⟨x, l, c, zs, hcs, _, hl, hm, hz, _, hcell, hwz⟩
    · simp [Value.cells] at hcs
      obtain ⟨rfl, rfl, rfl⟩ := hcs
      exact ⟨[], .inl ⟨rfl, rfl, rfl, rfl⟩⟩
    · simp [Value.cells] at hcs
      obtain ⟨rfl, rfl, rfl⟩ := hcs
      exact ⟨zs, .inr ⟨_, rfl, hl, hm, by simpa using hz, hcell, hwz⟩⟩
  obtain ⟨a1, len1, cap1, rfl⟩ := okWide_slice Try.underlying22 (hval 1 22 v1 rfl rfl)
  have k1 := h1
  have lt1 : ∀ x ∈ p1, x.block < W.heap.size := by obtain ⟨m, hm⟩ := k1; exact DataW.trod_lt m _ _ _ hm
  obtain ⟨z1, w1⟩ : ∃ zs, IsRow .u64 W a1 len1 cap1 zs := by
    obtain ⟨fuel, hf⟩ := h1
    rcases open_ints Try.underlying22 Try.underlying30 (by kernel_rfl) hf with ⟨hcs, _⟩ | ⟨x, l, c, zs, hcs, _, hl, hm, hz, _, hcell, hwz⟩
    · simp [Value.cells] at hcs
      obtain ⟨rfl, rfl, rfl⟩ := hcs
      exact ⟨[], .inl ⟨rfl, rfl, rfl, rfl⟩⟩
    · simp [Value.cells] at hcs
      obtain ⟨rfl, rfl, rfl⟩ := hcs
      exact ⟨zs, .inr ⟨_, rfl, hl, hm, by simpa using hz, hcell, hwz⟩⟩
  obtain ⟨a2, rfl, rfl, rfl, w2⟩ := open_int Try.underlying33 (hval 2 33 v2 rfl rfl) h2
  clear hA0 hval0
  refine (walk a0 len0 cap0 z0 a1 len1 cap1 z1 a2 W w0 w1 w2).mono fun e W' ⟨he, bel⟩ => ?_
  subst he
  exact ⟨_, rfl, _, _, _, [], _, [], hW', trodAll_mk1 (shut_bool Try.underlying4 _), (trodAll_cons_mk (Below.trod laidOut (by kernel_rfl) (of_decide_eq_true (by kernel_rfl)) k0 bel lt0) (trodAll_cons_mk (Below.trod laidOut (by kernel_rfl) (of_decide_eq_true (by kernel_rfl)) k1 bel lt1) (trodAll_cons_mk (shut_int Try.underlying33 w2) trodAll_mk0))), rfl, bel.frame _, fun h => by cases h⟩

theorem over : Rows.fnShiftLeftMatchesDoublingRow.holds Try.pinned (OpenSpec.ofChange Rows.fnShiftLeftMatchesDoublingSpec) :=
  OpenClaim.holds_of_wide 9 Try.f9 rfl rfl rfl rfl rfl rfl rfl ⟨rfl, rfl, rfl, rfl, rfl⟩ rfl rfl rfl rfl rfl (by kernel_rfl) Try.func9 (by kernel_rfl)
    (of_decide_eq_true (by kernel_rfl)) (by unfold Func.isWrapper; first | (rw [if_pos (by decide +kernel)]; kernel_rfl) | (rw [if_neg (by decide +kernel)]; exact ⟨rfl, rfl⟩))
    (fun os started H enc _ => lifted os started H enc)

/-- ████ THE STATEMENT ████ -/
theorem proved : Rows.FnShiftLeftMatchesDoublingSaid := over
end Go.Proofs.Qxb6602480a.fnShiftLeftMatchesDoubling
