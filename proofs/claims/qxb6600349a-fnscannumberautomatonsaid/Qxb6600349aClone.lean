/-
  THE WALKS OF cloneBytes (13) AND joinBytes (15).
-/
import Derived.Test.Qxb6600349aRows
import Derived.Test.Qxb6600349aBytes
import Derived.WalkKit
import Derived.WalkSpells
import Derived.WalkLawsBesides
namespace Go.Proofs.Qxb6600349a
open Go.RowKit

theorem Hid.mk' {p : Prop} (h : p) : Hid p := h

theorem Try.info5 : (Try.prog.info? 5).map (fun i => (i.zero, i.size, i.bytes)) = some (some (.int .u8 0), 1, 1) := by kernel_rfl

set_option maxHeartbeats 400000 in
theorem clone_nil (w : World) (n cap : Nat) :
    Calls Try.prog 13 #[.slice none n cap] w fun e w' => e = .returned (.slice none 0 0) ∧ w' = w := by
  have hnil := fun wx => Lib.run_eql_slice_nil (P := Try.prog) wx 29 5 none n cap 0 0 Try.underlying29
  go_enter Try.func13, Try.ntmps13
  go_wp2
  go_ret
  exact ⟨rfl, rfl⟩

set_option maxHeartbeats 400000 in
theorem clone_empty (w : World) (x : Addr) (cap : Nat) (f : Nat → Int) :
    Calls Try.prog 13 #[.slice (some x) 0 cap] w fun e w' => e = .returned (.slice (some ⟨w.heap.size, 0, none⟩) 0 0) ∧ Bs w' (some ⟨w.heap.size, 0, none⟩) 0 0 f ∧ Below w.heap.size w w' := by
  obtain ⟨i0, hi, hz0, hz1, hz2⟩ := info_parts Try.info5
  have hnil := fun wx => Lib.run_eql_slice_nil (P := Try.prog) wx 29 5 (some x) 0 cap 0 0 Try.underlying29
  go_enter Try.func13, Try.ntmps13
  go_wp2_with (at_make; refine wpList_make_full _ rfl _ _ 29 rfl w.heap.size 5 i0 (.int .u8 0) 1 Try.underlying29 hi hz0 hz1 _ _ _ _ 0 rfl rfl rfl rfl (by rw [hz2]; omega) (by unfold maxLen; omega) (Nat.le_refl _) ?_)
  intro w1 hown hgrow
  have hb : Below w.heap.size w w1 := (Below.refl _ _).grown hgrow (Nat.le_refl _) (by intro k hk; cases hk)
  clear hown hgrow
  go_wp2_with fail
  go_loopw [4] (fun i wr => i = .int .i64 0 ∧ Below w.heap.size w wr) (fun i _ => 0)
  case atStart => exact ⟨rfl, hb⟩
  case round =>
    obtain ⟨rfl, hnx⟩ := hrel
    go_wp2_with fail
    go_ret
    exact ⟨rfl, ⟨Nat.le_refl _, Nat.zero_le _, fun i hi => absurd hi (Nat.not_lt_zero _), .inl rfl⟩, hnx⟩

set_option maxHeartbeats 400000 in
theorem clone_full (w : World) (b off n cap : Nat) (f : Nat → Int) (hn : n ≤ 1048576) (hlt : b < w.heap.size) (hr : ∀ i, i < n → 0 ≤ f i ∧ f i ≤ 255)
    (hc : ∀ i, i < n → w.cell? ⟨b, off + i, none⟩ = some (.int .u8 (f i))) :
    Calls Try.prog 13 #[.slice (some ⟨b, off, none⟩) n cap] w fun e w' => e = .returned (.slice (some ⟨w.heap.size, 0, none⟩) n n) ∧ Bs w' (some ⟨w.heap.size, 0, none⟩) n n f ∧ Below w.heap.size w w' := by
  obtain ⟨i0, hi, hz0, hz1, hz2⟩ := info_parts Try.info5
  have hnil := fun wx => Lib.run_eql_slice_nil (P := Try.prog) wx 29 5 (some ⟨b, off, none⟩) n cap 0 0 Try.underlying29
  have HR : Hid (∀ i, i < n → 0 ≤ f i ∧ f i ≤ 255) := hr; clear hr
  have HC : Hid (∀ i, i < n → w.cell? ⟨b, off + i, none⟩ = some (.int .u8 (f i))) := hc; clear hc
  go_enter Try.func13, Try.ntmps13
  go_wp2_with (at_make; refine wpList_make_full _ rfl _ _ 29 rfl w.heap.size 5 i0 (.int .u8 0) 1 Try.underlying29 hi hz0 hz1 _ _ _ _ n rfl rfl rfl rfl (by rw [hz2]; omega) (by unfold maxLen; omega) (Nat.le_refl _) ?_)
  intro w1 hown hgrow
  have hb : Below w.heap.size w w1 := (Below.refl _ _).grown hgrow (Nat.le_refl _) (by intro k hk; cases hk)
  rw [part_zero f n] at hown
  have HO : Hid (w1.ownsRow w.heap.size 5 1 (.slice (some ⟨w.heap.size, 0, none⟩) n n) n (part f 0 n)) := hown
  clear hown hgrow
  clear hi hz0 hz1 hz2
  go_wp2_with fail
  go_loopw [4] (fun i wr => ∃ k : Nat, k ≤ n ∧ i = .int .i64 k ∧ Hid (wr.ownsRow w.heap.size 5 1 (.slice (some ⟨w.heap.size, 0, none⟩) n n) n (part f k n)) ∧ Below w.heap.size w wr) (fun i _ => n - (intOf i).toNat)
  case atStart => exact ⟨0, Nat.zero_le _, rfl, HO, hb⟩
  case round =>
    obtain ⟨k, hk, rfl, HOr, hnx⟩ := hrel
    by_cases hkn : k < n
    · have hcx : wr.cell? ⟨b, off + k, none⟩ = some (.int .u8 (f k)) := (hnx.cell (p := ⟨b, off + k, none⟩) hlt).trans (HC.out k hkn)
      obtain ⟨v, hv⟩ := part_some (f := f) (k := k) hkn
      have hdx : wr.cell? ⟨w.heap.size, k, none⟩ = some (.int .u8 v) := (HOr.out.cellAt k (by omega)).trans hv
      have hfx : wr.frozen? ⟨w.heap.size, k, none⟩ = false := HOr.out.frozenAt k
      have hst := (HOr.out.stored k (.int .u8 (f k))).1
      rw [part_set] at hst
      have HST : Hid ((wr.setCell ⟨w.heap.size, k, none⟩ (.int .u8 (f k))).ownsRow w.heap.size 5 1 (.slice (some ⟨w.heap.size, 0, none⟩) n n) n (part f (k + 1) n)) := hst
      clear hst hv
      go_wp2_with fail
      go_roundw
      case rel => exact ⟨k + 1, by omega, by go_num, HST, hnx.setCell (Nat.le_refl _) _⟩
      case measure => simp [intOf]; omega
    · obtain rfl : k = n := by omega
      go_wp2_with fail
      go_ret
      exact ⟨rfl, Bs.of_own HOr.out (by unfold maxLen; omega) HR.out, hnx⟩

/-- cloneBytes: a copy of the same bytes; nothing old has turned -/
theorem clone_any (w : World) (a : Option Addr) (n cap : Nat) (f : Nat → Int) (h : Bs w a n cap f) (hnil : a = none → n = 0) (hn : n ≤ 1048576) :
    Calls Try.prog 13 #[.slice a n cap] w fun e w' => ∃ a' cap', e = .returned (.slice a' n cap') ∧ Bs w' a' n cap' f ∧ (a' = none → n = 0) ∧ Below w.heap.size w w' := by
  cases a with
  | none =>
    obtain rfl := hnil rfl
    refine (clone_nil w 0 cap).mono ?_
    rintro e w' ⟨rfl, rfl⟩
    exact ⟨none, 0, rfl, ⟨Nat.le_refl _, Nat.zero_le _, fun i hi => absurd hi (Nat.not_lt_zero _), .inl rfl⟩, fun _ => rfl, Below.refl _ _⟩
  | some x =>
    by_cases h0 : n = 0
    · subst h0
      refine (clone_empty w x cap f).mono ?_
      rintro e w' ⟨rfl, hb, hl⟩
      exact ⟨_, _, rfl, hb, fun _ => rfl, hl⟩
    · rcases h.cells with h1 | ⟨b, off, hx, hlt, hc⟩
      · exact absurd h1 h0
      · simp only [Option.some.injEq] at hx
        subst hx
        refine (clone_full w b off n cap f hn hlt h.rng hc).mono ?_
        rintro e w' ⟨rfl, hb, hl⟩
        exact ⟨_, _, rfl, hb, (by intro e; cases e), hl⟩

set_option maxHeartbeats 400000 in
/-- joinBytes: the bytes of the one, then those of the other; nothing old has turned -/
theorem join_any (w : World) (a1 : Option Addr) (n1 cap1 : Nat) (f : Nat → Int) (a2 : Option Addr) (n2 cap2 : Nat) (g : Nat → Int) (h1 : Bs w a1 n1 cap1 f) (h2 : Bs w a2 n2 cap2 g) (hn1 : n1 ≤ 1048576) (hn2 : n2 ≤ 1048576) :
    Calls Try.prog 15 #[.slice a1 n1 cap1, .slice a2 n2 cap2] w fun e w' => ∃ a', e = .returned (.slice a' (n1 + n2) (n1 + n2)) ∧ Bs w' a' (n1 + n2) (n1 + n2) (jn f n1 g) ∧ Below w.heap.size w w' := by
  obtain ⟨i0, hi, hz0, hz1, hz2⟩ := info_parts Try.info5
  have H1 : Hid (Bs w a1 n1 cap1 f) := h1; clear h1
  have H2 : Hid (Bs w a2 n2 cap2 g) := h2; clear h2
  go_enter Try.func15, Try.ntmps15
  go_wp2_with (at_make; refine wpList_make_full _ rfl _ _ 29 rfl w.heap.size 5 i0 (.int .u8 0) 1 Try.underlying29 hi hz0 hz1 _ _ _ _ (n1 + n2) rfl rfl (by omega) (by omega) (by rw [hz2]; omega) (by unfold maxLen; omega) (Nat.le_refl _) ?_)
  intro w1 hown hgrow
  have hb : Below w.heap.size w w1 := (Below.refl _ _).grown hgrow (Nat.le_refl _) (by intro k hk; cases hk)
  rw [part_zero (jn f n1 g) (n1 + n2)] at hown
  have HO : Hid (w1.ownsRow w.heap.size 5 1 (.slice (some ⟨w.heap.size, 0, none⟩) (n1 + n2) (n1 + n2)) (n1 + n2) (part (jn f n1 g) 0 (n1 + n2))) := hown
  clear hown hgrow
  clear hi hz0 hz1 hz2
  go_wp2_with fail
  go_loopw [6] (fun i wr => ∃ k : Nat, k ≤ n1 ∧ i = .int .i64 k ∧ Hid (wr.ownsRow w.heap.size 5 1 (.slice (some ⟨w.heap.size, 0, none⟩) (n1 + n2) (n1 + n2)) (n1 + n2) (part (jn f n1 g) k (n1 + n2))) ∧ Below w.heap.size w wr) (fun i _ => n1 - (intOf i).toNat)
  case atStart => exact ⟨0, Nat.zero_le _, rfl, HO, hb⟩
  case round =>
    obtain ⟨k, hk, rfl, HOr, hnx⟩ := hrel
    by_cases hkn : k < n1
    · rcases H1.out.cells with h0 | ⟨b, off, rfl, hlt, hc⟩
      · exfalso; omega
      · have hcx : wr.cell? ⟨b, off + k, none⟩ = some (.int .u8 (f k)) := (hnx.cell (p := ⟨b, off + k, none⟩) hlt).trans (hc k hkn)
        clear hc
        obtain ⟨v, hv⟩ := part_some (f := jn f n1 g) (k := k) (n := n1 + n2) (j := k) (by omega)
        have hdx : wr.cell? ⟨w.heap.size, k, none⟩ = some (.int .u8 v) := (HOr.out.cellAt k (by omega)).trans hv
        have hfx : wr.frozen? ⟨w.heap.size, k, none⟩ = false := HOr.out.frozenAt k
        have hst := (HOr.out.stored k (.int .u8 (jn f n1 g k))).1
        rw [part_set, jn_lo hkn] at hst
        have HST : Hid ((wr.setCell ⟨w.heap.size, k, none⟩ (.int .u8 (f k))).ownsRow w.heap.size 5 1 (.slice (some ⟨w.heap.size, 0, none⟩) (n1 + n2) (n1 + n2)) (n1 + n2) (part (jn f n1 g) (k + 1) (n1 + n2))) := hst
        clear hst hv
        go_wp2_with fail
        go_roundw
        case rel => exact ⟨k + 1, by omega, by go_num, HST, hnx.setCell (Nat.le_refl _) _⟩
        case measure => simp [intOf]; omega
    · obtain rfl : k = n1 := by omega
      clear hb HO
      go_wp2_with fail
      go_loopw [7] (fun i wr => ∃ j : Nat, j ≤ n2 ∧ i = .int .i64 j ∧ Hid (wr.ownsRow w.heap.size 5 1 (.slice (some ⟨w.heap.size, 0, none⟩) (k + n2) (k + n2)) (k + n2) (part (jn f k g) (k + j) (k + n2))) ∧ Below w.heap.size w wr) (fun i _ => n2 - (intOf i).toNat)
      case atStart => exact ⟨0, Nat.zero_le _, rfl, HOr, hnx⟩
      case round =>
        clear HOr hnx
        obtain ⟨j, hj, rfl, HOr, hnx⟩ := hrel
        by_cases hjn : j < n2
        · rcases H2.out.cells with h0 | ⟨b, off, rfl, hlt, hc⟩
          · exfalso; omega
          · have hcx := (hnx.cell (p := ⟨b, off + j, none⟩) hlt).trans (hc j hjn)
            clear hc
            obtain ⟨v, hv⟩ := part_some (f := jn f k g) (k := k + j) (n := k + n2) (j := k + j) (by omega)
            have hdx := (HOr.out.cellAt (k + j) (by omega)).trans hv
            have hfx := HOr.out.frozenAt (k + j)
            have hst := (HOr.out.stored (k + j) (.int .u8 (jn f k g (k + j)))).1
            rw [part_set, jn_hi] at hst
            have HST := Hid.mk' hst
            clear hst hv
            go_wp2_with fail
            go_roundw
            case rel => exact ⟨j + 1, by omega, by go_num, HST, hnx.setCell (Nat.le_refl _) _⟩
            case measure => simp [intOf]; omega
        · obtain rfl : j = n2 := by omega
          go_wp2_with fail
          go_ret
          exact ⟨_, rfl, Bs.of_own HOr.out (by unfold maxLen; omega) (jn_rng H1.out.rng H2.out.rng), hnx⟩
end Go.Proofs.Qxb6600349a
