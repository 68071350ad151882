/-
  THE WALKS OF cloneStrings (17), cloneUint16s (18), cloneInt32s (19).
-/
import Derived.Test.Qxb6000061aMem
import Derived.WalkSpells
import Derived.WalkLawsBesides
namespace Go.Proofs.Qxb6000061a
open Go.RowKit

theorem Try.info9 : (Try.prog.info? 9).map (fun i => (i.zero, i.size, i.bytes)) = some (some (.string ⟨#[]⟩), 1, 16) := by kernel_rfl
theorem Try.info54 : (Try.prog.info? 54).map (fun i => (i.zero, i.size, i.bytes)) = some (some (.int .u16 0), 1, 2) := by kernel_rfl
theorem Try.info21 : (Try.prog.info? 21).map (fun i => (i.zero, i.size, i.bytes)) = some (some (.int .i32 0), 1, 4) := by kernel_rfl

set_option maxHeartbeats 400000 in
theorem clone17_nil (w : World) (n cap : Nat) :
    Calls Try.prog 17 #[.slice none n cap] w fun e w' => e = .returned (.slice none 0 0) ∧ w' = w := by
  have hnil := fun wx => Lib.run_eql_slice_nil (P := Try.prog) wx 35 9 none n cap 0 0 Try.underlying35
  go_enter Try.func17, Try.ntmps17
  go_wp2
  go_ret
  exact ⟨rfl, rfl⟩

set_option maxHeartbeats 400000 in
theorem clone17_some (w : World) (x : Addr) (n cap : Nat) (f : Nat → ByteArray) (h : Rd w noO (some x) n cap 1 (fun i => Value.string (f i))) (hn : n ≤ 1048576) :
    Calls Try.prog 17 #[.slice (some x) n cap] w fun e w' => e = .returned (.slice (some ⟨w.heap.size, 0, none⟩) n n) ∧ Rd w' noO (some ⟨w.heap.size, 0, none⟩) n n 1 (fun i => Value.string (f i)) ∧ Below w.heap.size w w' := by
  obtain ⟨i0, hi, hz0, hz1, hz2⟩ := info_parts Try.info9
  have hnil := fun wx => Lib.run_eql_slice_nil (P := Try.prog) wx 35 9 (some x) n cap 0 0 Try.underlying35
  have HC := Hid.mk' h.cells; clear h
  go_enter Try.func17, Try.ntmps17
  go_wp2_with (at_make; refine wpList_make_full _ rfl _ _ 35 rfl w.heap.size 9 i0 (Value.string ⟨#[]⟩) 1 Try.underlying35 hi hz0 hz1 _ _ _ _ n rfl rfl rfl rfl (by rw [hz2]; omega) (by unfold maxLen; omega) (Nat.le_refl _) ?_)
  intro w1 hown hgrow
  have hb : Below w.heap.size w w1 := (Below.refl _ _).grown hgrow (Nat.le_refl _) (by intro k hk; cases hk)
  rw [rowOf_zero (Value.string ⟨#[]⟩) n] at hown
  have HO := Hid.mk' hown
  clear hown hgrow hi hz0 hz1 hz2
  go_wp2_with fail
  go_loopw [4] (fun i wr => ∃ k : Nat, ∃ g : Nat → ByteArray, k ≤ n ∧ i = .int .i64 k ∧ Hid (∀ j, j < k → g j = f j) ∧ Hid (wr.ownsRow w.heap.size 9 1 (.slice (some ⟨w.heap.size, 0, none⟩) n n) n (rowOf (fun j => Value.string (g j)) n)) ∧ Below w.heap.size w wr) (fun i _ => n - (intOf i).toNat)
  case atStart => exact ⟨0, fun _ => ⟨#[]⟩, Nat.zero_le _, rfl, fun j hj => absurd hj (Nat.not_lt_zero _), HO, hb⟩
  case round =>
    obtain ⟨k, g, hk, rfl, HG, HOr, hnx⟩ := hrel
    by_cases hkn : k < n
    · rcases HC.out with h0 | ⟨b, off, hx, hlt, _, hc⟩
      · exfalso; omega
      · simp only [Option.some.injEq] at hx
        subst hx
        have hcx := (hnx.cell (p := ⟨b, off + k, none⟩) hlt).trans (hc k (by omega))
        clear hc
        have hdx := (HOr.out.cellAt k (by omega)).trans (rowOf_at hkn)
        have hfx := HOr.out.frozenAt k
        have hst := (HOr.out.stored k (Value.string (f k))).1
        rw [rowOf_set, rowOf_congr (g := fun j => Value.string ((fun i => if i = k then f k else g i) j)) (fun i _ => by unfold updV; by_cases e : i = k <;> simp [e])] at hst
        have HST := Hid.mk' hst
        clear hst
        go_wp2_with fail
        go_roundw
        case rel => exact ⟨k + 1, _, by omega, by go_num, (fun j hj => by by_cases e : j = k; · simp [e]
                                                                          · simp only [e, if_false]; exact HG.out j (by omega)), HST, hnx.setCell (Nat.le_refl _) _⟩
        case measure => simp [intOf]; omega
    · obtain rfl : k = n := by omega
      have hfin := HOr.out
      rw [rowOf_congr (g := fun j => Value.string (f j)) (fun i hi => by rw [HG.out i hi])] at hfin
      have HF := Hid.mk' hfin; clear hfin
      go_wp2_with fail
      go_ret
      exact ⟨rfl, Rd.of_own (by rw [Nat.mul_one]; exact HF.out) (by unfold maxLen; omega) (fun e => e), hnx⟩

theorem clone17_any (w : World) (a : Option Addr) (n cap : Nat) (f : Nat → ByteArray) (h : Rd w noO a n cap 1 (fun i => Value.string (f i))) (hn : n ≤ 1048576) :
    Calls Try.prog 17 #[.slice a n cap] w fun e w' => ∃ a' cap', e = .returned (.slice a' n cap') ∧ Rd w' noO a' n cap' 1 (fun i => Value.string (f i)) ∧ Below w.heap.size w w' := by
  cases a with
  | none =>
    obtain rfl := h.nil rfl
    refine (clone17_nil w 0 cap).mono ?_
    rintro e w' ⟨rfl, rfl⟩
    exact ⟨none, 0, rfl, Rd.empty _ _ _ _, Below.refl _ _⟩
  | some x =>
    refine (clone17_some w x n cap f h hn).mono ?_
    rintro e w' ⟨rfl, hb, hl⟩
    exact ⟨_, _, rfl, hb, hl⟩

set_option maxHeartbeats 400000 in
theorem clone18_nil (w : World) (n cap : Nat) :
    Calls Try.prog 18 #[.slice none n cap] w fun e w' => e = .returned (.slice none 0 0) ∧ w' = w := by
  have hnil := fun wx => Lib.run_eql_slice_nil (P := Try.prog) wx 36 54 none n cap 0 0 Try.underlying36
  go_enter Try.func18, Try.ntmps18
  go_wp2
  go_ret
  exact ⟨rfl, rfl⟩

set_option maxHeartbeats 400000 in
theorem clone18_some (w : World) (x : Addr) (n cap : Nat) (f : Nat → Int) (h : Rd w noO (some x) n cap 1 (fun i => Value.int .u16 (f i))) (hn : n ≤ 1048576) :
    Calls Try.prog 18 #[.slice (some x) n cap] w fun e w' => e = .returned (.slice (some ⟨w.heap.size, 0, none⟩) n n) ∧ Rd w' noO (some ⟨w.heap.size, 0, none⟩) n n 1 (fun i => Value.int .u16 (f i)) ∧ Below w.heap.size w w' := by
  obtain ⟨i0, hi, hz0, hz1, hz2⟩ := info_parts Try.info54
  have hnil := fun wx => Lib.run_eql_slice_nil (P := Try.prog) wx 36 54 (some x) n cap 0 0 Try.underlying36
  have HC := Hid.mk' h.cells; clear h
  go_enter Try.func18, Try.ntmps18
  go_wp2_with (at_make; refine wpList_make_full _ rfl _ _ 36 rfl w.heap.size 54 i0 (Value.int .u16 0) 1 Try.underlying36 hi hz0 hz1 _ _ _ _ n rfl rfl rfl rfl (by rw [hz2]; omega) (by unfold maxLen; omega) (Nat.le_refl _) ?_)
  intro w1 hown hgrow
  have hb : Below w.heap.size w w1 := (Below.refl _ _).grown hgrow (Nat.le_refl _) (by intro k hk; cases hk)
  rw [rowOf_zero (Value.int .u16 0) n] at hown
  have HO := Hid.mk' hown
  clear hown hgrow hi hz0 hz1 hz2
  go_wp2_with fail
  go_loopw [4] (fun i wr => ∃ k : Nat, ∃ g : Nat → Int, k ≤ n ∧ i = .int .i64 k ∧ Hid (∀ j, j < k → g j = f j) ∧ Hid (wr.ownsRow w.heap.size 54 1 (.slice (some ⟨w.heap.size, 0, none⟩) n n) n (rowOf (fun j => Value.int .u16 (g j)) n)) ∧ Below w.heap.size w wr) (fun i _ => n - (intOf i).toNat)
  case atStart => exact ⟨0, fun _ => 0, Nat.zero_le _, rfl, fun j hj => absurd hj (Nat.not_lt_zero _), HO, hb⟩
  case round =>
    obtain ⟨k, g, hk, rfl, HG, HOr, hnx⟩ := hrel
    by_cases hkn : k < n
    · rcases HC.out with h0 | ⟨b, off, hx, hlt, _, hc⟩
      · exfalso; omega
      · simp only [Option.some.injEq] at hx
        subst hx
        have hcx := (hnx.cell (p := ⟨b, off + k, none⟩) hlt).trans (hc k (by omega))
        clear hc
        have hdx := (HOr.out.cellAt k (by omega)).trans (rowOf_at hkn)
        have hfx := HOr.out.frozenAt k
        have hst := (HOr.out.stored k (Value.int .u16 (f k))).1
        rw [rowOf_set, rowOf_congr (g := fun j => Value.int .u16 ((fun i => if i = k then f k else g i) j)) (fun i _ => by unfold updV; by_cases e : i = k <;> simp [e])] at hst
        have HST := Hid.mk' hst
        clear hst
        go_wp2_with fail
        go_roundw
        case rel => exact ⟨k + 1, _, by omega, by go_num, (fun j hj => by by_cases e : j = k; · simp [e]
                                                                          · simp only [e, if_false]; exact HG.out j (by omega)), HST, hnx.setCell (Nat.le_refl _) _⟩
        case measure => simp [intOf]; omega
    · obtain rfl : k = n := by omega
      have hfin := HOr.out
      rw [rowOf_congr (g := fun j => Value.int .u16 (f j)) (fun i hi => by rw [HG.out i hi])] at hfin
      have HF := Hid.mk' hfin; clear hfin
      go_wp2_with fail
      go_ret
      exact ⟨rfl, Rd.of_own (by rw [Nat.mul_one]; exact HF.out) (by unfold maxLen; omega) (fun e => e), hnx⟩

theorem clone18_any (w : World) (a : Option Addr) (n cap : Nat) (f : Nat → Int) (h : Rd w noO a n cap 1 (fun i => Value.int .u16 (f i))) (hn : n ≤ 1048576) :
    Calls Try.prog 18 #[.slice a n cap] w fun e w' => ∃ a' cap', e = .returned (.slice a' n cap') ∧ Rd w' noO a' n cap' 1 (fun i => Value.int .u16 (f i)) ∧ Below w.heap.size w w' := by
  cases a with
  | none =>
    obtain rfl := h.nil rfl
    refine (clone18_nil w 0 cap).mono ?_
    rintro e w' ⟨rfl, rfl⟩
    exact ⟨none, 0, rfl, Rd.empty _ _ _ _, Below.refl _ _⟩
  | some x =>
    refine (clone18_some w x n cap f h hn).mono ?_
    rintro e w' ⟨rfl, hb, hl⟩
    exact ⟨_, _, rfl, hb, hl⟩

set_option maxHeartbeats 400000 in
theorem clone19_nil (w : World) (n cap : Nat) :
    Calls Try.prog 19 #[.slice none n cap] w fun e w' => e = .returned (.slice none 0 0) ∧ w' = w := by
  have hnil := fun wx => Lib.run_eql_slice_nil (P := Try.prog) wx 37 21 none n cap 0 0 Try.underlying37
  go_enter Try.func19, Try.ntmps19
  go_wp2
  go_ret
  exact ⟨rfl, rfl⟩

set_option maxHeartbeats 400000 in
theorem clone19_some (w : World) (x : Addr) (n cap : Nat) (f : Nat → Int) (h : Rd w noO (some x) n cap 1 (fun i => Value.int .i32 (f i))) (hn : n ≤ 1048576) :
    Calls Try.prog 19 #[.slice (some x) n cap] w fun e w' => e = .returned (.slice (some ⟨w.heap.size, 0, none⟩) n n) ∧ Rd w' noO (some ⟨w.heap.size, 0, none⟩) n n 1 (fun i => Value.int .i32 (f i)) ∧ Below w.heap.size w w' := by
  obtain ⟨i0, hi, hz0, hz1, hz2⟩ := info_parts Try.info21
  have hnil := fun wx => Lib.run_eql_slice_nil (P := Try.prog) wx 37 21 (some x) n cap 0 0 Try.underlying37
  have HC := Hid.mk' h.cells; clear h
  go_enter Try.func19, Try.ntmps19
  go_wp2_with (at_make; refine wpList_make_full _ rfl _ _ 37 rfl w.heap.size 21 i0 (Value.int .i32 0) 1 Try.underlying37 hi hz0 hz1 _ _ _ _ n rfl rfl rfl rfl (by rw [hz2]; omega) (by unfold maxLen; omega) (Nat.le_refl _) ?_)
  intro w1 hown hgrow
  have hb : Below w.heap.size w w1 := (Below.refl _ _).grown hgrow (Nat.le_refl _) (by intro k hk; cases hk)
  rw [rowOf_zero (Value.int .i32 0) n] at hown
  have HO := Hid.mk' hown
  clear hown hgrow hi hz0 hz1 hz2
  go_wp2_with fail
  go_loopw [4] (fun i wr => ∃ k : Nat, ∃ g : Nat → Int, k ≤ n ∧ i = .int .i64 k ∧ Hid (∀ j, j < k → g j = f j) ∧ Hid (wr.ownsRow w.heap.size 21 1 (.slice (some ⟨w.heap.size, 0, none⟩) n n) n (rowOf (fun j => Value.int .i32 (g j)) n)) ∧ Below w.heap.size w wr) (fun i _ => n - (intOf i).toNat)
  case atStart => exact ⟨0, fun _ => 0, Nat.zero_le _, rfl, fun j hj => absurd hj (Nat.not_lt_zero _), HO, hb⟩
  case round =>
    obtain ⟨k, g, hk, rfl, HG, HOr, hnx⟩ := hrel
    by_cases hkn : k < n
    · rcases HC.out with h0 | ⟨b, off, hx, hlt, _, hc⟩
      · exfalso; omega
      · simp only [Option.some.injEq] at hx
        subst hx
        have hcx := (hnx.cell (p := ⟨b, off + k, none⟩) hlt).trans (hc k (by omega))
        clear hc
        have hdx := (HOr.out.cellAt k (by omega)).trans (rowOf_at hkn)
        have hfx := HOr.out.frozenAt k
        have hst := (HOr.out.stored k (Value.int .i32 (f k))).1
        rw [rowOf_set, rowOf_congr (g := fun j => Value.int .i32 ((fun i => if i = k then f k else g i) j)) (fun i _ => by unfold updV; by_cases e : i = k <;> simp [e])] at hst
        have HST := Hid.mk' hst
        clear hst
        go_wp2_with fail
        go_roundw
        case rel => exact ⟨k + 1, _, by omega, by go_num, (fun j hj => by by_cases e : j = k; · simp [e]
                                                                          · simp only [e, if_false]; exact HG.out j (by omega)), HST, hnx.setCell (Nat.le_refl _) _⟩
        case measure => simp [intOf]; omega
    · obtain rfl : k = n := by omega
      have hfin := HOr.out
      rw [rowOf_congr (g := fun j => Value.int .i32 (f j)) (fun i hi => by rw [HG.out i hi])] at hfin
      have HF := Hid.mk' hfin; clear hfin
      go_wp2_with fail
      go_ret
      exact ⟨rfl, Rd.of_own (by rw [Nat.mul_one]; exact HF.out) (by unfold maxLen; omega) (fun e => e), hnx⟩

theorem clone19_any (w : World) (a : Option Addr) (n cap : Nat) (f : Nat → Int) (h : Rd w noO a n cap 1 (fun i => Value.int .i32 (f i))) (hn : n ≤ 1048576) :
    Calls Try.prog 19 #[.slice a n cap] w fun e w' => ∃ a' cap', e = .returned (.slice a' n cap') ∧ Rd w' noO a' n cap' 1 (fun i => Value.int .i32 (f i)) ∧ Below w.heap.size w w' := by
  cases a with
  | none =>
    obtain rfl := h.nil rfl
    refine (clone19_nil w 0 cap).mono ?_
    rintro e w' ⟨rfl, rfl⟩
    exact ⟨none, 0, rfl, Rd.empty _ _ _ _, Below.refl _ _⟩
  | some x =>
    refine (clone19_some w x n cap f h hn).mono ?_
    rintro e w' ⟨rfl, hb, hl⟩
    exact ⟨_, _, rfl, hb, hl⟩
end Go.Proofs.Qxb6000061a
