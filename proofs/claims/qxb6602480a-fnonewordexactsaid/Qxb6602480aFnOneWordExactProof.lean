/-
  A PROOF OF 'Rows.FnOneWordExactSaid': the frame is the given shell's; the walk is filled in.
-/
import Derived.Test.Qxb6602480aPlainH
import Derived.Test.Qxb6602480aWalksG
import Derived.Test.Qxb6602480aRows
import Derived.WalkKit
import Derived.ProofKit
import Derived.OpenShut
import Derived.ShutString
import Derived.ChangeOld
import Derived.Below
namespace Go.Proofs.Qxb6602480a.fnOneWordExact
open Go.ChangeShapes Go.WideShapes Go.ChangeAt Go.RowKit
open Go.ChangeMaps (open_string shut_string)
set_option linter.unusedVariables false

theorem own : ownKnob Try.prog.godebug = none := by kernel_rfl
theorem laidOut : laidOutB Try.prog = true := by kernel_rfl

/-- WHAT THE WALK IS TOLD OF A SLICE OF INTEGERS THAT CAME IN: it is nil; or it leads to a row of 'cap' cells, the numbers 'zs' (the first 'len' are its elements, the rest its spare room), each fitting its kind. -/
def IsRow (k : IntKind) (w : World) (a : Option Addr) (len cap : Nat) (zs : List Int) : Prop :=
  (a = none ∧ len = 0 ∧ cap = 0 ∧ zs = []) ∨
  ∃ x, a = some x ∧ len ≤ cap ∧ cap ≤ maxLen ∧ zs.length = cap ∧ (∀ i, i < zs.length → w.cell? (x.add i) = some (.int k (zs.getD i 0))) ∧ ∀ n ∈ zs, (Lit.int k n).wf = true

/-! ### THE WALK -/
set_option maxHeartbeats 600000 in
/-- Not empty, at most 65536 words. -/
theorem walk_in (b0 o0 c0 n : Nat) (xs : List Int) (w : World) (hn : 1 ≤ n) (hn' : n ≤ 65536) (hx : n = xs.length) (hb0 : b0 < w.heap.size) (hr0 : Reads w b0 o0 xs) (hw0 : Words xs) :
    Calls Try.prog 6 #[.slice (some ⟨b0, o0, none⟩) n c0] w fun e w' => e = .returned (.bool true) ∧ Below w.heap.size w w' := by
  have HX : Hid (n = xs.length) := hx
  have HI := exact_iff hw0 n hn hx
  have HB := back_words hw0 n hn hx
  have HII : Hid (oneOk xs = true ↔ 0 ≤ cmpOut xs (lo n) (n - 1) ∧ cmpOut xs (hi n) (n - 1) ≤ 0) := HI
  have HBB : Hid (oneOk xs = true → signExt (oneV xs) n = xs) := HB
  clear hx HI HB
  have h4 : ((n : Int) == 0) = false := by simp; omega
  go_enter Try.func6, Try.ntmps6
  go_wp2_with fail
  refine (zz19_yes _ _ _ _ (by omega)).mono ?_
  rintro e w1 ⟨rfl, rfl⟩
  go_wp2_with fail
  refine (clone_some b0 o0 n c0 xs _ (by omega) HX.out hb0 hr0).mono ?_
  rintro e w2 ⟨rfl, hbl2, ho2, hs2⟩
  go_wp2_with fail
  refine (zzOneWord_any _ 0 n n xs _ hn (by omega) HX.out (Nat.le_refl _) ho2.reads).mono ?_
  rintro e w3 ⟨rfl, rfl⟩
  go_wp2_with fail
  refine (signExtend_any (-9223372036854775808) n _ hn (by omega)).mono ?_
  rintro e w4 ⟨rfl, hbl4, ho4, hs4⟩
  go_wp2_with fail
  refine (signExtend_any 9223372036854775807 n _ hn (by omega)).mono ?_
  rintro e w5 ⟨rfl, hbl5, ho5, hs5⟩
  have hsz5 : w5.heap.size = w1.heap.size + 3 := by omega
  have ho2' := (ho2.below hbl4 (by omega)).below hbl5 (by omega)
  have ho4' := ho4.below hbl5 (by omega)
  rw [hs2] at ho4'
  have hbl : Below w1.heap.size w1 w5 := (hbl2.trans (hbl4.mono (by omega))).trans (hbl5.mono (by omega))
  have M1 : Hid (Calls Try.prog 15 #[.slice (some ⟨w1.heap.size, 0, none⟩) n n, .slice (some ⟨w1.heap.size + 1, 0, none⟩) n n] w5 fun e w' => e = .returned (.int .i64 (cmpOut xs (lo n) (n - 1))) ∧ w' = w5) :=
    model_n _ 0 _ _ 0 _ n xs (lo n) w5 hn (by omega) HX.out (signExt_len _ _).symm ho2'.reads ho4'.reads hw0 (signExt_words _ _)
  have M2 : Hid (Calls Try.prog 15 #[.slice (some ⟨w1.heap.size, 0, none⟩) n n, .slice (some ⟨w4.heap.size, 0, none⟩) n n] w5 fun e w' => e = .returned (.int .i64 (cmpOut xs (hi n) (n - 1))) ∧ w' = w5) :=
    model_n _ 0 _ _ 0 _ n xs (hi n) w5 hn (by omega) HX.out (signExt_len _ _).symm ho2'.reads ho5.reads hw0 (signExt_words _ _)
  clear hbl2 hbl4 hbl5 ho2 ho4 ho5 hs2 hs4 hs5 ho4'
  obtain ⟨p, hp⟩ : ∃ p, p = oneOk xs := ⟨_, rfl⟩
  obtain ⟨u, hu⟩ : ∃ u, u = oneV xs := ⟨_, rfl⟩
  obtain ⟨cl, hcl⟩ : ∃ u, u = cmpOut xs (lo n) (n - 1) := ⟨_, rfl⟩
  obtain ⟨ch, hch⟩ : ∃ u, u = cmpOut xs (hi n) (n - 1) := ⟨_, rfl⟩
  rw [← hp, ← hu]
  rw [← hcl] at M1 HII
  rw [← hch] at M2 HII
  rw [← hp] at HII HBB
  rw [← hu] at HBB
  have HU : Hid (u = oneV xs) := hu
  have HP : Hid (p = oneOk xs) := hp
  clear hp hu hcl hch
  by_cases h1 : 0 ≤ cl
  · by_cases h2 : ch ≤ 0
    · obtain rfl : p = true := HII.out.2 ⟨h1, h2⟩
      have e := HBB.out rfl
      clear HII HBB HU HP
      have HE : Hid (signExt u n = xs) := e
      clear e
      go_wp2_with fail
      refine M1.out.mono ?_
      rintro e w6 ⟨rfl, rfl⟩
      go_wp2_with fail
      refine M2.out.mono ?_
      rintro e w7 ⟨rfl, rfl⟩
      go_wp2_with fail
      refine (signExtend_any u n _ hn (by omega)).mono ?_
      rintro e w8 ⟨rfl, hbl8, ho8, hs8⟩
      have ho2'' := ho2'.below hbl8 (by omega)
      rw [HE.out] at ho8
      rw [hsz5] at ho8
      go_wp2_with fail
      refine (equal_any _ 0 _ _ 0 _ n xs xs _ (by omega) HX.out HX.out (by exact ho8.reads) (by exact ho2''.reads)).mono ?_
      rintro e w9 ⟨rfl, m, rfl⟩
      go_wp2
      go_ret
      exact ⟨by simp, below_drewN (hbl.trans (hbl8.mono (by omega))) _⟩
    · obtain rfl : p = false := by
        cases p
        · rfl
        · exact absurd (HII.out.1 rfl).2 h2
      have hu0 : u = 0 := by rw [HU.out, oneV, ← HP.out]; rfl
      subst hu0
      clear HII HBB HU HP
      go_wp2_with fail
      refine M1.out.mono ?_
      rintro e w6 ⟨rfl, rfl⟩
      go_wp2_with fail
      refine M2.out.mono ?_
      rintro e w7 ⟨rfl, rfl⟩
      go_wp2
      go_ret
      exact ⟨rfl, hbl⟩
  · obtain rfl : p = false := by
      cases p
      · rfl
      · exact absurd (HII.out.1 rfl).1 h1
    have hu0 : u = 0 := by rw [HU.out, oneV, ← HP.out]; rfl
    subst hu0
    clear HII HBB HU HP
    go_wp2_with fail
    refine M1.out.mono ?_
    rintro e w6 ⟨rfl, rfl⟩
    go_wp2
    go_ret
    exact ⟨rfl, hbl⟩

set_option maxHeartbeats 400000 in
/-- Too long, or empty. -/
theorem walk_out (a0 : Option Addr) (n0 c0 : Nat) (w : World) (h : 65536 < n0 ∨ n0 = 0) :
    Calls Try.prog 6 #[.slice a0 n0 c0] w fun e w' => e = .returned (.bool true) ∧ Below w.heap.size w w' := by
  go_enter Try.func6, Try.ntmps6
  go_wp2_with fail
  refine (zz19_any _ _ _ _).mono ?_
  rintro e w1 ⟨b, rfl, rfl⟩
  cases b
  · go_wp2
    go_ret
    exact ⟨rfl, Below.refl _ _⟩
  · by_cases h0 : 65536 < n0
    · go_wp2
      go_ret
      exact ⟨rfl, Below.refl _ _⟩
    · obtain rfl : n0 = 0 := by omega
      go_wp2
      go_ret
      exact ⟨rfl, Below.refl _ _⟩

theorem walk (a0 : Option Addr) (len0 cap0 : Nat) (z0 : List Int) (w : World) (w0 : IsRow .u64 w a0 len0 cap0 z0) :
    Calls Try.prog 6 #[.slice a0 len0 cap0] w fun e w' => e = .returned (.bool true) ∧ Below w.heap.size w w' := by
  by_cases h : 65536 < len0 ∨ len0 = 0
  · exact walk_out a0 len0 cap0 w h
  · rcases w0 with ⟨_, h0, _⟩ | ⟨x0, rfl, hl0, hm0, hz0, hc0, hwf0⟩
    · omega
    obtain ⟨b0, o0, rfl, hb0, hr0, hw0, hx⟩ := row_open (by omega) hl0 hz0 hc0 hwf0
    exact walk_in b0 o0 cap0 _ _ w (by omega) (by omega) hx.symm hb0 hr0 hw0

/-! ### THE ROW's STEP: WRITTEN OUT: LEAVE IT -/
set_option maxRecDepth 100000 in
theorem lifted (os : Os) (started : os.Started) (H : Type) (enc : TypeId × Value → H) :
    ReturnsInHanded {} Try.checked os 6 .any (Rows.fnOneWordExactSpec.pre6 enc Try.prog Try.f6 Rows.fnOneWordExactRow.domain false) (Rows.fnOneWordExactSpec.post enc Try.prog Try.f6 false true false false) := by
  refine returnsInHanded_of_change (C := Try.checked) own started (by kernel_rfl) Try.func6
    (ChangeSpec.witness6 (enc := enc) (C := Try.checked) false ⟨#[], #[.slice none 0 0], []⟩ 8 (by kernel_rfl) (by kernel_rfl) (by kernel_rfl) (by kernel_rfl)) ?_
  intro W base args ds gs before hval0 hW hcnd _
  have hval : ∀ (j : Nat) t v, Try.f6.params[j]? = some t → args[j]? = some v → Value.okWide Try.prog W .any base t v := hval0
  have hW' := hW
  obtain ⟨p, q, hA0, hV, rfl, hfz, hnd⟩ := hW
  have hA : DataW.TrodAll enc Try.prog W 0 (fun _ => true) true Try.f6.params.toList args.toList ds p := hA0
  rw [Try.params6] at hA hval
  obtain ⟨v0, vs0, d0, ds0, p0, q0, hargs, rfl, rfl, h0, r0⟩ := trodAll_cons hA
  obtain ⟨rfl, rfl, rfl⟩ := trodAll_nil r0
  obtain rfl : args = #[v0] := by cases args; simp_all
  obtain ⟨rfl, rfl⟩ := trodVars_none hV
  obtain ⟨a0, len0, cap0, rfl⟩ := okWide_slice Try.underlying22 (hval 0 22 v0 rfl rfl)
  have k0 := h0
  have lt0 : ∀ x ∈ p0, x.block < W.heap.size := by obtain ⟨m, hm⟩ := k0; exact DataW.trod_lt m _ _ _ hm
  obtain ⟨z0, w0⟩ : ∃ zs, IsRow .u64 W a0 len0 cap0 zs := by
    obtain ⟨fuel, hf⟩ := h0
    rcases open_ints Try.underlying22 Try.underlying30 (by kernel_rfl) hf with ⟨hcs, _⟩ | ⟨x, l, c, zs, hcs, _, hl, hm, hz, _, hcell, hwz⟩
    · simp [Value.cells] at hcs
      obtain ⟨rfl, rfl, rfl⟩ := hcs
      exact ⟨[], .inl ⟨rfl, rfl, rfl, rfl⟩⟩
    · simp [Value.cells] at hcs
      obtain ⟨rfl, rfl, rfl⟩ := hcs
      exact ⟨zs, .inr ⟨_, rfl, hl, hm, by simpa using hz, hcell, hwz⟩⟩
  clear hA0 hval0
  refine (walk a0 len0 cap0 z0 W w0).mono fun e W' ⟨he, bel⟩ => ?_
  subst he
  exact ⟨_, rfl, _, _, _, [], _, [], hW', trodAll_mk1 (shut_bool Try.underlying4 _), (trodAll_cons_mk (Below.trod laidOut (by kernel_rfl) (of_decide_eq_true (by kernel_rfl)) k0 bel lt0) trodAll_mk0), rfl, bel.frame _, fun h => by cases h⟩

theorem over : Rows.fnOneWordExactRow.holds Try.pinned (OpenSpec.ofChange Rows.fnOneWordExactSpec) :=
  OpenClaim.holds_of_wide 6 Try.f6 rfl rfl rfl rfl rfl rfl rfl ⟨rfl, rfl, rfl, rfl, rfl⟩ rfl rfl rfl rfl rfl (by kernel_rfl) Try.func6 (by kernel_rfl)
    (of_decide_eq_true (by kernel_rfl)) (by unfold Func.isWrapper; first | (rw [if_pos (by decide +kernel)]; kernel_rfl) | (rw [if_neg (by decide +kernel)]; exact ⟨rfl, rfl⟩))
    (fun os started H enc _ => lifted os started H enc)

/-- ████ THE STATEMENT ████ -/
theorem proved : Rows.FnOneWordExactSaid := over
end Go.Proofs.Qxb6602480a.fnOneWordExact
