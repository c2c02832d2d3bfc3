/-
  THE WALKS, K: 'ZZshiftLeft' (26), 'lwDouble' (25).
-/
import Derived.Test.Qxb6602480aWalksI
namespace Go.Proofs.Qxb6602480a
open Go.RowKit
set_option linter.unusedVariables false

set_option maxHeartbeats 400000 in
/-- 'shiftLeft' of no words into no words. -/
theorem shift_nil (az am : Option Addr) (cz cm : Nat) (s : Nat) (w : World) :
    Calls Try.prog 30 #[.slice az 0 cz, .slice am 0 cm, .int .u64 s] w fun e w' => e = .returned (.tuple #[]) ∧ w' = w := by
  go_enter Try.func30, Try.ntmps30
  go_wp2
  go_loop [11] (fun i => i = .int .i64 0) (fun _ => 0)
  case atStart => rfl
  case round =>
    subst hrel
    go_wp2
    go_end0
    exact ⟨rfl, rfl⟩

set_option maxHeartbeats 400000 in
/-- 'ZZshiftLeft' by a contract of 'shiftLeft'. -/
theorem zzShift_of (vz vm vs : Value) (w : World) (Q : World → Prop) (h : Calls Try.prog 30 #[vz, vm, vs] w fun e w' => e = .returned (.tuple #[]) ∧ Q w') :
    Calls Try.prog 26 #[vz, vm, vs] w fun e w' => e = .returned (.tuple #[]) ∧ Q w' := by
  have H : Hid (Calls Try.prog 30 #[vz, vm, vs] w fun e w' => e = .returned (.tuple #[]) ∧ Q w') := h
  clear h
  go_enter Try.func26, Try.ntmps26
  go_wp2_with fail
  refine H.out.mono ?_
  rintro e w1 ⟨rfl, hq⟩
  go_wp2
  go_end0
  exact ⟨rfl, hq⟩

/-- 'ZZshiftLeft' of a row that lies elsewhere into a row of one's own. -/
theorem zzShift_apart (g nz cz : Nat) (zs : List Int) {l h : Nat} (am : Option Addr) (n cm : Nat) (ms : List Int) (s : Nat) (w : World) (h2 : nz ≤ 65537) (hz : nz = zs.length) (hn1 : n ≤ nz) (hn2 : nz ≤ n + 1) (hs : s < 64)
    (hw : IsWords ms) (ho : Own w g zs) (hm : Holds w l h am n ms) (hd : g < l ∨ h ≤ g) :
    Calls Try.prog 26 #[.slice (some ⟨g, 0, none⟩) nz cz, .slice am n cm, .int .u64 s] w fun e w' => e = .returned (.tuple #[]) ∧ Own w' g (shl ms s nz) ∧ Only g (g + 1) w w' := by
  refine zzShift_of _ _ _ w _ (shift_core g nz cz zs am n cm ms s w h2 hz hm.1 hn1 hn2 hs hw ho ?_)
  intro wr k hk hol honly
  obtain ⟨b, e, _, _, hc⟩ := (hm.only honly (by omega)).cell k hk
  exact ⟨b, 0, e, hc⟩

/-- 'ZZshiftLeft' of a row into itself, or into itself and one word more. -/
theorem zzShift_self (g nz cz : Nat) (zs : List Int) (n cm : Nat) (s : Nat) (w : World) (h2 : nz ≤ 65537) (hz : nz = zs.length) (hn1 : n ≤ nz) (hn2 : nz ≤ n + 1) (hs : s < 64)
    (hw : IsWords (zs.take n)) (ho : Own w g zs) :
    Calls Try.prog 26 #[.slice (some ⟨g, 0, none⟩) nz cz, .slice (some ⟨g, 0, none⟩) n cm, .int .u64 s] w fun e w' => e = .returned (.tuple #[]) ∧ Own w' g (shl (zs.take n) s nz) ∧ Only g (g + 1) w w' := by
  refine zzShift_of _ _ _ w _ (shift_core g nz cz zs _ n cm (zs.take n) s w h2 hz (by simp; omega) hn1 hn2 hs hw ho ?_)
  intro wr k hk hol honly
  refine ⟨g, 0, rfl, ?_⟩
  rw [Nat.zero_add, hol.cell k (by rw [outTo_len _ _ _ _ (by omega)]; omega)]
  congr 2
  have e : (zs.take n)[k]?.getD 0 = zs[k]?.getD 0 := by rw [List.getElem?_take_of_lt hk]
  exact (outTo_at _ s k zs).trans e.symm

/-- 'ZZshiftLeft' of a row into another, either of which may be empty or nil. -/
theorem zzShift_holds {l h l' h' : Nat} (az am : Option Addr) (nz cz n cm : Nat) (zs ms : List Int) (s : Nat) (w : World) (h2 : nz ≤ 65537) (hn1 : n ≤ nz) (hn2 : nz ≤ n + 1) (hs : s < 64)
    (hw : IsWords ms) (hz : Holds w l h az nz zs) (hm : Holds w l' h' am n ms) (hd : h ≤ l' ∨ h' ≤ l) :
    Calls Try.prog 26 #[.slice az nz cz, .slice am n cm, .int .u64 s] w fun e w' => e = .returned (.tuple #[]) ∧ Holds w' l h az nz (shl ms s nz) ∧ Only l h w w' := by
  obtain ⟨hz0, hz1⟩ := hz
  by_cases h0 : nz = 0
  · obtain rfl : n = 0 := by omega
    subst h0
    refine zzShift_of _ _ _ w _ ((shift_nil az am cz cm s w).mono ?_)
    rintro e w' ⟨rfl, rfl⟩
    exact ⟨rfl, ⟨(shl_len _ _ _).symm, .inl rfl⟩, Only.refl _ _ _⟩
  · obtain ⟨g, rfl, hg1, hg2, ho⟩ := hz1.resolve_left h0
    refine (zzShift_apart g nz cz zs am n cm ms s w h2 hz0 hn1 hn2 hs hw ho hm (by omega)).mono ?_
    rintro e w' ⟨rfl, o, p⟩
    exact ⟨rfl, ⟨(shl_len _ _ _).symm, .inr ⟨g, rfl, hg1, hg2, o⟩⟩, p.mono hg1 (by omega)⟩

/-! ### lwDouble -/
def dblTo (xs : List Int) (k : Nat) : List Int := dbl xs k ++ xs.drop k
theorem dblTo_len (xs : List Int) (k : Nat) (h : k ≤ xs.length) : (dblTo xs k).length = xs.length := by simp [dblTo, dbl]; omega
theorem dblTo_zero (xs : List Int) : dblTo xs 0 = xs := by simp [dblTo, dbl]
theorem dblTo_all (xs : List Int) : dblTo xs xs.length = dbl xs xs.length := by simp [dblTo]
theorem dblTo_at (xs : List Int) (k : Nat) : (dblTo xs k)[k]?.getD 0 = xs[k]?.getD 0 := by
  unfold dblTo
  rw [List.getElem?_append_right (by rw [dbl_len]; exact Nat.le_refl _), dbl_len]
  simp
theorem dblTo_set (xs : List Int) (k : Nat) (h : k < xs.length) : (dblTo xs k).set k (dblAt xs k) = dblTo xs (k + 1) := by
  unfold dblTo
  rw [List.set_append_right _ _ (by rw [dbl_len]; exact Nat.le_refl _), dbl_len, Nat.sub_self, dbl, dbl, List.range_succ, List.map_append, List.append_assoc]
  congr 1
  rw [List.drop_eq_getElem_cons h]
  rfl
theorem dcar_yes {xs : List Int} {k : Nat} {x : Int} (hx : x = xs.getD k 0) (h : IntKind.u64.wrap (x + x) < x) : dcar xs (k + 1) = 1 := by
  subst hx; exact if_pos h
theorem dcar_no {xs : List Int} {k : Nat} {x : Int} (hx : x = xs.getD k 0) (h : x ≤ IntKind.u64.wrap (x + x)) : dcar xs (k + 1) = 0 := by
  subst hx; exact if_neg (by show ¬ IntKind.u64.wrap (xs.getD k 0 + xs.getD k 0) < xs.getD k 0; omega)

set_option maxHeartbeats 400000 in
/-- 'lwDouble' of a row of one's own. -/
theorem double_own (g n c : Nat) (xs : List Int) (w : World) (h2 : n ≤ 65537) (hx : n = xs.length) (hw : IsWords xs) (ho : Own w g xs) :
    Calls Try.prog 25 #[.slice (some ⟨g, 0, none⟩) n c] w fun e w' => e = .returned (.tuple #[]) ∧ Own w' g (dbl xs n) ∧ Only g (g + 1) w w' := by
  have HX : Hid (n = xs.length) := hx
  clear hx
  go_enter Try.func25, Try.ntmps25
  go_wp2
  go_loopw [2, 9] (fun cs is wr => ∃ k : Nat, k ≤ n ∧ is = .int .i64 k ∧ cs = .int .u64 (dcar xs k) ∧ Own wr g (dblTo xs k) ∧ Only g (g + 1) w wr) (fun _ i _ => n - (intOf i).toNat)
  case atStart => exact ⟨0, Nat.zero_le _, rfl, rfl, by rw [dblTo_zero]; exact ho, Only.refl _ _ _⟩
  case round =>
    obtain ⟨k, hk, rfl, rfl, hol, honly⟩ := hrel
    by_cases hlt : k < n
    · have hc := hol.cell k (by rw [dblTo_len _ _ (by have := HX.out; omega)]; have := HX.out; omega)
      rw [show (dblTo xs k).getD k 0 = xs.getD k 0 from dblTo_at xs k] at hc
      have hf := hol.frozen k
      obtain ⟨x, hxe⟩ : ∃ x, x = xs.getD k 0 := ⟨_, rfl⟩
      obtain ⟨cy, hcy⟩ : ∃ c, c = dcar xs k := ⟨_, rfl⟩
      have hxb : 0 ≤ x ∧ x < 18446744073709551616 := by rw [hxe]; exact hw k
      rw [← hxe] at hc
      rw [← hcy]
      have HXE : Hid (x = xs.getD k 0) := hxe
      have HCY : Hid (cy = dcar xs k) := hcy
      obtain ⟨hx0, hx1⟩ := hxb
      clear hxe hcy
      go_wp2
      · go_roundw
        case rel =>
          refine ⟨k + 1, by omega, by go_num, by rw [dcar_yes HXE.out (by assumption)], ?_, honly.setCell (Nat.le_refl _) (Nat.lt_succ_self _) _⟩
          rw [← dblTo_set _ _ (by have := HX.out; omega), HXE.out, HCY.out]
          exact hol.set _ _
        case measure => simp [intOf]; omega
      · go_roundw
        case rel =>
          refine ⟨k + 1, by omega, by go_num, by rw [dcar_no HXE.out (by assumption)], ?_, honly.setCell (Nat.le_refl _) (Nat.lt_succ_self _) _⟩
          rw [← dblTo_set _ _ (by have := HX.out; omega), HXE.out, HCY.out]
          exact hol.set _ _
        case measure => simp [intOf]; omega
    · have hkn : k = n := by omega
      subst hkn
      go_wp2
      go_end0
      refine ⟨rfl, ?_, honly⟩
      have h1 := hol
      rw [HX.out, dblTo_all, ← HX.out] at h1
      exact h1

set_option maxHeartbeats 400000 in
/-- 'lwDouble' of no words. -/
theorem double_nil (a : Option Addr) (c : Nat) (w : World) :
    Calls Try.prog 25 #[.slice a 0 c] w fun e w' => e = .returned (.tuple #[]) ∧ w' = w := by
  go_enter Try.func25, Try.ntmps25
  go_wp2
  go_loop [9] (fun i => i = .int .i64 0) (fun _ => 0)
  case atStart => rfl
  case round =>
    subst hrel
    go_wp2
    go_end0
    exact ⟨rfl, rfl⟩
end Go.Proofs.Qxb6602480a
