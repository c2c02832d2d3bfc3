/-
  THE WALKS, I: 'shiftLeft' (30), 'ZZshiftLeft' (26), 'lwDouble' (25); rows that may be nil or empty.
-/
import Derived.Test.Qxb6602480aWalksC
import Derived.Test.Qxb6602480aPlainJ
namespace Go.Proofs.Qxb6602480a
open Go.RowKit
set_option linter.unusedVariables false

/-- Outside the blocks from l to h - 1 nothing has turned, and no block is new. -/
structure Only (l h : Nat) (w w' : World) : Prop where
  os : w'.os = w.os
  tape : w'.tape = w.tape
  output : w'.output = w.output
  size : w'.heap.size = w.heap.size
  block : ∀ k, k < l ∨ h ≤ k → w'.heap[k]? = w.heap[k]?

theorem Only.refl (l h : Nat) (w : World) : Only l h w w := ⟨rfl, rfl, rfl, rfl, fun _ _ => rfl⟩
theorem Only.trans {l h : Nat} {a b c : World} (p : Only l h a b) (q : Only l h b c) : Only l h a c :=
  ⟨q.os.trans p.os, q.tape.trans p.tape, q.output.trans p.output, q.size.trans p.size, fun k hk => (q.block k hk).trans (p.block k hk)⟩
theorem Only.mono {l h l' h' : Nat} {a b : World} (p : Only l h a b) (h1 : l' ≤ l) (h2 : h ≤ h') : Only l' h' a b :=
  ⟨p.os, p.tape, p.output, p.size, fun k hk => p.block k (by omega)⟩
theorem Only.setCell {l h : Nat} {a w : World} (p : Only l h a w) {g j : Nat} (h1 : l ≤ g) (h2 : g < h) (u : Value) : Only l h a (w.setCell ⟨g, j, none⟩ u) :=
  p.trans ⟨rfl, rfl, rfl, by simp [World.setCell], fun k hk => Below.heap_setCell _ _ _ _ (by show k ≠ g; omega)⟩
theorem Only.below {l h B : Nat} {w w' : World} (p : Only l h w w') (hB : B ≤ l) : Below B w w' :=
  ⟨p.os, p.tape, p.output, by rw [p.size]; exact Nat.le_refl _, fun k hk => p.block k (by omega)⟩
theorem Own.only {w w' : World} {l h g : Nat} {xs : List Int} (o : Own w g xs) (p : Only l h w w') (hg : g < l ∨ h ≤ g) : Own w' g xs := o.of_block (p.block g hg)

/-- A slice value of n words that holds xs: of no words, or at the head of a block of its own among l .. h - 1. -/
def Holds (w : World) (l h : Nat) (a : Option Addr) (n : Nat) (xs : List Int) : Prop :=
  n = xs.length ∧ (n = 0 ∨ ∃ g, a = some ⟨g, 0, none⟩ ∧ l ≤ g ∧ g < h ∧ Own w g xs)
theorem Holds.below {w w' : World} {l h B n : Nat} {a : Option Addr} {xs : List Int} (p : Holds w l h a n xs) (b : Below B w w') (hB : h ≤ B) : Holds w' l h a n xs := by
  obtain ⟨h0, h1 | ⟨g, e, h1, h2, o⟩⟩ := p
  · exact ⟨h0, .inl h1⟩
  · exact ⟨h0, .inr ⟨g, e, h1, h2, o.below b (by omega)⟩⟩
theorem Holds.only {w w' : World} {l h l' h' n : Nat} {a : Option Addr} {xs : List Int} (p : Holds w l h a n xs) (b : Only l' h' w w') (hB : h ≤ l' ∨ h' ≤ l) : Holds w' l h a n xs := by
  obtain ⟨h0, h1 | ⟨g, e, h1, h2, o⟩⟩ := p
  · exact ⟨h0, .inl h1⟩
  · exact ⟨h0, .inr ⟨g, e, h1, h2, o.only b (by omega)⟩⟩
theorem Holds.cell {w : World} {l h n : Nat} {a : Option Addr} {xs : List Int} (p : Holds w l h a n xs) (k : Nat) (hk : k < n) :
    ∃ g, a = some ⟨g, 0, none⟩ ∧ l ≤ g ∧ g < h ∧ w.cell? ⟨g, 0 + k, none⟩ = some (.int .u64 (xs.getD k 0)) := by
  obtain ⟨h0, h1 | ⟨g, e, h2, h3, o⟩⟩ := p
  · omega
  · exact ⟨g, e, h2, h3, by rw [Nat.zero_add]; exact o.cell k (by omega)⟩

/-- A slice that can be cloned. -/
def Src (w : World) (a : Option Addr) (n c : Nat) (xs : List Int) : Prop :=
  n = xs.length ∧ ((a = none ∧ n = 0 ∧ c = 0) ∨ (∃ x, a = some x ∧ n = 0) ∨ ∃ b off, a = some ⟨b, off, none⟩ ∧ b < w.heap.size ∧ Reads w b off xs)

theorem Holds.src {w : World} {l h n c : Nat} {a : Option Addr} {xs : List Int} (p : Holds w l h a n xs) (hc : n = 0 → a = none → c = 0) : Src w a n c xs := by
  obtain ⟨h0, h1 | ⟨g, e, h2, h3, o⟩⟩ := p
  · refine ⟨h0, ?_⟩
    cases a with
    | none => exact .inl ⟨rfl, h1, hc h1 rfl⟩
    | some x => exact .inr (.inl ⟨x, rfl, h1⟩)
  · exact ⟨h0, .inr (.inr ⟨g, 0, e, o.lt, o.reads⟩)⟩

/-- 'lwClone', of whatever slice. -/
theorem clone_src (a : Option Addr) (n c : Nat) (xs : List Int) (w : World) (hn' : n ≤ 65537) (hs : Src w a n c xs) :
    Calls Try.prog 13 #[.slice a n c] w fun e w' => ∃ a', e = .returned (.slice a' n n) ∧ Below w.heap.size w w' ∧ Holds w' w.heap.size w'.heap.size a' n xs := by
  obtain ⟨h0, ⟨rfl, rfl, rfl⟩ | ⟨x, rfl, rfl⟩ | ⟨b, off, rfl, hb, hr⟩⟩ := hs
  · refine (clone_nil w).mono ?_
    rintro e w' ⟨rfl, rfl⟩
    exact ⟨none, rfl, Below.refl _ _, ⟨h0, .inl rfl⟩⟩
  · refine (clone_empty x c w).mono ?_
    rintro e w' ⟨rfl, h1, h2, h3⟩
    exact ⟨_, rfl, h1, ⟨h0, .inl rfl⟩⟩
  · refine (clone_some b off n c xs w hn' h0 hb hr).mono ?_
    rintro e w' ⟨rfl, h1, h2, h3⟩
    exact ⟨_, rfl, h1, ⟨h0, .inr ⟨_, rfl, Nat.le_refl _, by omega, h2⟩⟩⟩

set_option maxHeartbeats 400000 in
/-- 'lwEqual' of two rows of no words. -/
theorem equal_zero (a b : Option Addr) (ca cb : Nat) (w : World) :
    Calls Try.prog 21 #[.slice a 0 ca, .slice b 0 cb] w fun e w' => e = .returned (.bool true) ∧ w' = w := by
  go_enter Try.func21, Try.ntmps21
  go_wp2
  go_loop [13] (fun i => i = .int .i64 0) (fun _ => 0)
  case atStart => rfl
  case round =>
    subst hrel
    go_wp2
    go_ret
    exact ⟨rfl, rfl⟩

/-- 'lwEqual' of two rows that hold the same words. -/
theorem equal_holds {l h l' h' : Nat} (a b : Option Addr) (n ca cb : Nat) (xs : List Int) (w : World) (hn' : n ≤ 65537) (pa : Holds w l h a n xs) (pb : Holds w l' h' b n xs) :
    Calls Try.prog 21 #[.slice a n ca, .slice b n cb] w fun e w' => e = .returned (.bool true) ∧ ∃ m, w' = w.drewN m := by
  obtain ⟨h0, h1⟩ := pa
  obtain ⟨_, h2⟩ := pb
  by_cases hz : n = 0
  · subst hz
    refine (equal_zero a b ca cb w).mono ?_
    rintro e w' ⟨rfl, rfl⟩
    exact ⟨rfl, 0, rfl⟩
  · obtain ⟨g, rfl, _, _, o1⟩ := h1.resolve_left hz
    obtain ⟨g', rfl, _, _, o2⟩ := h2.resolve_left hz
    refine (equal_any g 0 ca g' 0 cb n xs xs w hn' h0 h0 o1.reads o2.reads).mono ?_
    rintro e w' ⟨rfl, m, rfl⟩
    exact ⟨by simp, m, rfl⟩

/-! ### shiftLeft -/
/-- The first k words laid, the rest as they were. -/
def outTo (ms : List Int) (s k : Nat) (zs : List Int) : List Int := shl ms s k ++ zs.drop k
theorem outTo_len (ms : List Int) (s k : Nat) (zs : List Int) (h : k ≤ zs.length) : (outTo ms s k zs).length = zs.length := by simp [outTo, shl]; omega
theorem outTo_zero (ms : List Int) (s : Nat) (zs : List Int) : outTo ms s 0 zs = zs := by simp [outTo, shl]
theorem outTo_all (ms : List Int) (s : Nat) (zs : List Int) : outTo ms s zs.length zs = shl ms s zs.length := by simp [outTo]
theorem outTo_at (ms : List Int) (s k : Nat) (zs : List Int) : (outTo ms s k zs)[k]?.getD 0 = zs[k]?.getD 0 := by
  unfold outTo
  rw [List.getElem?_append_right (by rw [shl_len]; exact Nat.le_refl _), shl_len]
  simp
theorem outTo_set (ms : List Int) (s k : Nat) (zs : List Int) (h : k < zs.length) : (outTo ms s k zs).set k (shlAt ms s k) = outTo ms s (k + 1) zs := by
  unfold outTo
  rw [List.set_append_right _ _ (by rw [shl_len]; exact Nat.le_refl _), shl_len, Nat.sub_self, shl, shl, List.range_succ, List.map_append, List.append_assoc]
  congr 1
  rw [List.drop_eq_getElem_cons h]
  rfl

set_option maxHeartbeats 400000 in
/-- 'shiftLeft' into a row of one's own; 'hrd': the words to be shifted are there when their turn comes. -/
theorem shift_core (g nz cz : Nat) (zs : List Int) (am : Option Addr) (n cm : Nat) (ms : List Int) (s : Nat) (w : World) (h2 : nz ≤ 65537) (hz : nz = zs.length) (hm : n = ms.length) (hn1 : n ≤ nz) (hn2 : nz ≤ n + 1) (hs : s < 64)
    (hw : IsWords ms) (ho : Own w g zs)
    (hrd : ∀ (wr : World) (k : Nat), k < n → Own wr g (outTo ms s k zs) → Only g (g + 1) w wr → ∃ bm om, am = some ⟨bm, om, none⟩ ∧ wr.cell? ⟨bm, om + k, none⟩ = some (.int .u64 (ms.getD k 0))) :
    Calls Try.prog 30 #[.slice (some ⟨g, 0, none⟩) nz cz, .slice am n cm, .int .u64 s] w fun e w' => e = .returned (.tuple #[]) ∧ Own w' g (shl ms s nz) ∧ Only g (g + 1) w w' := by
  have HZ : Hid (nz = zs.length) := hz
  have HM : Hid (n = ms.length) := hm
  have HR : Hid (∀ (wr : World) (k : Nat), k < n → Own wr g (outTo ms s k zs) → Only g (g + 1) w wr → ∃ bm om, am = some ⟨bm, om, none⟩ ∧ wr.cell? ⟨bm, om + k, none⟩ = some (.int .u64 (ms.getD k 0))) := hrd
  clear hz hm hrd
  go_enter Try.func30, Try.ntmps30
  go_wp2
  go_loopw [6, 11] (fun cs is wr => ∃ k : Nat, k ≤ n ∧ is = .int .i64 k ∧ cs = .int .u64 (car ms s k) ∧ Own wr g (outTo ms s k zs) ∧ Only g (g + 1) w wr) (fun _ i _ => n - (intOf i).toNat)
  case atStart => exact ⟨0, Nat.zero_le _, rfl, rfl, by rw [outTo_zero]; exact ho, Only.refl _ _ _⟩
  case round =>
    obtain ⟨k, hk, rfl, rfl, hol, honly⟩ := hrel
    have hcb := car_bounds hw s (by omega) k
    by_cases hlt : k < n
    · obtain ⟨bm, om, rfl, hc⟩ := HR.out wr k hlt hol honly
      obtain ⟨x, hxe⟩ : ∃ x, x = ms.getD k 0 := ⟨_, rfl⟩
      obtain ⟨cy, hcy⟩ : ∃ c, c = car ms s k := ⟨_, rfl⟩
      have hxb : 0 ≤ x ∧ x < 18446744073709551616 := by rw [hxe]; exact hw k
      rw [← hxe] at hc
      rw [← hcy]
      have HXE : Hid (x = ms.getD k 0) := hxe
      have HCY : Hid (cy = car ms s k) := hcy
      obtain ⟨hx0, hx1⟩ := hxb
      have hcz := hol.cell k (by rw [outTo_len _ _ _ _ (by have := HZ.out; omega)]; have := HZ.out; omega)
      have hf := hol.frozen k
      clear hxe hcy hcb
      go_wp2
      go_roundw
      case rel =>
        refine ⟨k + 1, by omega, by go_num, ?_, ?_, honly.setCell (Nat.le_refl _) (Nat.lt_succ_self _) _⟩
        · rw [HXE.out]; rfl
        · rw [← outTo_set _ _ _ _ (by have := HZ.out; omega)]
          rw [HXE.out, HCY.out]
          exact hol.set _ _
      case measure => simp [intOf]; omega
    · have hkn : k = n := by omega
      subst hkn
      by_cases hwide : k < nz
      · obtain ⟨cy, hcy⟩ : ∃ c, c = car ms s k := ⟨_, rfl⟩
        rw [← hcy]
        have HCY : Hid (cy = car ms s k) := hcy
        have hcz := hol.cell k (by rw [outTo_len _ _ _ _ (by have := HZ.out; omega)]; have := HZ.out; omega)
        have hf := hol.frozen k
        clear hcy hcb
        go_wp2
        go_end0
        refine ⟨rfl, ?_, honly.setCell (Nat.le_refl _) (Nat.lt_succ_self _) _⟩
        have h1 := hol.set k cy
        rw [HCY.out, ← shl_last hw s (by omega) k (by have := HM.out; omega), outTo_set _ _ _ _ (by have := HZ.out; omega)] at h1
        have e : k + 1 = zs.length := by have := HZ.out; omega
        rw [e, outTo_all, ← HZ.out] at h1
        rw [HCY.out]
        rw [← shl_last hw s (by omega) k (by have := HM.out; omega)]
        exact h1
      · clear hcb
        have hnz : nz = k := by omega
        have HNZ : Hid (nz = k) := hnz
        clear hnz
        go_wp2
        go_end0
        refine ⟨rfl, ?_, honly⟩
        have h1 := hol
        rw [← HNZ.out, HZ.out, outTo_all, ← HZ.out] at h1
        exact h1
end Go.Proofs.Qxb6602480a
