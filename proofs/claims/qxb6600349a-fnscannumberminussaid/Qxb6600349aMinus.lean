/-
  THE WALK OF FnScanNumberMinus (9).
-/
import Derived.Test.Qxb6600349aNumTops
import Derived.Test.Qxb6600349aRowOf
namespace Go.Proofs.Qxb6600349a
open Go.RowKit

/-- f with a sign put in at p -/
def signed (f : Nat → Int) (p : Nat) : Nat → Int := fun i => if i < p then f i else if i = p then 45 else f (i - 1)
theorem signed_at (f : Nat → Int) (p : Nat) : signed f p p = 45 := by unfold signed; rw [if_neg (by omega), if_pos rfl]
theorem signed_hi (f : Nat → Int) (p i : Nat) (h : p ≤ i) : signed f p (i + 1) = f i := by unfold signed; rw [if_neg (by omega), if_neg (by omega), Nat.add_sub_cancel]

/-- what the row under way holds behind k rounds -/
def Under (f : Nat → Int) (p k : Nat) (h : Nat → Int) : Prop :=
  (∀ i, i < k → i < p → h i = f i) ∧ (∀ i, i < k → p ≤ i → h (i + 1) = f i) ∧ ∀ i, 0 ≤ h i ∧ h i ≤ 255

theorem Under.zero (f : Nat → Int) (p : Nat) : Under f p 0 (fun _ => 0) :=
  ⟨fun i hi => absurd hi (Nat.not_lt_zero _), fun i hi => absurd hi (Nat.not_lt_zero _), fun _ => ⟨Int.le_refl _, show (0 : Int) ≤ 255 by decide⟩⟩
theorem Under.lo {f : Nat → Int} {p k : Nat} {h : Nat → Int} (H : Under f p k h) (hk : k < p) (hr : 0 ≤ f k ∧ f k ≤ 255) : Under f p (k + 1) (upd h k (f k)) := by
  refine ⟨fun i hi hp => ?_, fun i hi hp => by omega, fun i => ?_⟩
  · by_cases e : i = k
    · subst e; rw [upd_same]
    · rw [upd_other e]; exact H.1 i (by omega) hp
  · by_cases e : i = k
    · subst e; rw [upd_same]; exact hr
    · rw [upd_other e]; exact H.2.2 i
theorem Under.hi {f : Nat → Int} {p k : Nat} {h : Nat → Int} (H : Under f p k h) (hk : p ≤ k) (hr : 0 ≤ f k ∧ f k ≤ 255) : Under f p (k + 1) (upd h (k + 1) (f k)) := by
  refine ⟨fun i hi hp => ?_, fun i hi hp => ?_, fun i => ?_⟩
  · rw [upd_other (by omega)]; exact H.1 i (by omega) hp
  · by_cases e : i = k
    · subst e; rw [upd_same]
    · rw [upd_other (by omega)]; exact H.2.1 i (by omega) hp
  · by_cases e : i = k + 1
    · subst e; rw [upd_same]; exact hr
    · rw [upd_other e]; exact H.2.2 i
theorem Under.done {f : Nat → Int} {p n : Nat} {h : Nat → Int} (H : Under f p n h) (hp : p ≤ n) : ∀ i, i < n + 1 → upd h p 45 i = signed f p i := by
  intro i hi
  unfold signed
  by_cases h1 : i < p
  · rw [if_pos h1, upd_other (by omega)]; exact H.1 i (by omega) h1
  · rw [if_neg h1]
    by_cases h2 : i = p
    · subst h2; rw [if_pos rfl, upd_same]
    · rw [if_neg h2, upd_other h2]
      have := H.2.1 (i - 1) (by omega) (by omega)
      rw [show i - 1 + 1 = i from by omega] at this
      exact this
theorem Under.rng {f : Nat → Int} {p n : Nat} {h : Nat → Int} (H : Under f p n h) : ∀ i, 0 ≤ upd h p 45 i ∧ upd h p 45 i ≤ 255 := by
  intro i
  by_cases h2 : i = p
  · subst h2; rw [upd_same]; omega
  · rw [upd_other h2]; exact H.2.2 i

set_option maxHeartbeats 400000 in
theorem t9_past (w : World) (a0 : Option Addr) (n0 c0 : Nat) (p : Int) (h : n0 ≤ 1048576) (hp : (n0 : Int) < p) :
    Calls Try.prog 9 #[.slice a0 n0 c0, .int .i64 p] w fun e w' => e = .returned (.bool true) ∧ Below w.heap.size w w' := by
  have hd : decide (p < 0) = false := by simp; omega
  go_enter Try.func9, Try.ntmps9
  go_wp2_with fail
  refine (zb21_yes w a0 n0 c0 p h).mono ?_
  rintro e w' ⟨rfl, hw⟩
  subst w'
  go_wp2_with fail
  go_ret
  exact ⟨rfl, Below.refl _ _⟩

set_option maxHeartbeats 400000 in
theorem t9_has (w : World) (b off n0 c0 : Nat) (p : Nat) (h : n0 ≤ 1048576) (hp : p < n0) (hc : w.cell? ⟨b, off + p, none⟩ = some (.int .u8 45)) :
    Calls Try.prog 9 #[.slice (some ⟨b, off, none⟩) n0 c0, .int .i64 p] w fun e w' => e = .returned (.bool true) ∧ Below w.heap.size w w' := by
  have hd : decide ((p : Int) < 0) = false := by simp
  have hd1 : decide ((p : Int) < (n0 : Int)) = true := by simp; omega
  go_enter Try.func9, Try.ntmps9
  go_wp2_with fail
  refine (zb21_yes w (some ⟨b, off, none⟩) n0 c0 p h).mono ?_
  rintro e w' ⟨rfl, hw⟩
  subst w'
  go_wp2_with fail
  go_ret
  exact ⟨rfl, Below.refl _ _⟩

set_option maxHeartbeats 2000000 in
theorem t9_in (w : World) (a0 : Option Addr) (n0 c0 : Nat) (f : Nat → Int) (p : Nat)
    (h0 : Bs w a0 n0 c0 f) (z0 : a0 = none → n0 = 0) (h : n0 ≤ 1048576) (hp : p ≤ n0) (hno : ¬ (p < n0 ∧ f p = 45)) :
    Calls Try.prog 9 #[.slice a0 n0 c0, .int .i64 p] w fun e w' => e = .returned (.bool true) ∧ Below w.heap.size w w' := by
  obtain ⟨i0, hi, hz0, hz1, hz2⟩ := info_parts Try.info5
  have HI := Hid.mk' hi; have HZ0 := Hid.mk' hz0; have HZ1 := Hid.mk' hz1; have HZ2 := Hid.mk' hz2
  clear hi hz0 hz1 hz2
  have H0 := Hid.mk' h0; clear h0
  have Z0 := Hid.mk' z0; clear z0
  have HNO := Hid.mk' hno
  have hd : decide ((p : Int) < 0) = false := by simp
  go_enter Try.func9, Try.ntmps9
  go_wp2_with fail
  refine (zb21_yes w a0 n0 c0 p h).mono ?_
  rintro e w' ⟨rfl, hw⟩
  subst w'
  go_upto_region 7 with fail
  go_cut [34] (fun t wc => wc = w ∧ t = .bool false)
  case first =>
    by_cases hlt : p < n0
    · have hd1 : decide ((p : Int) < (n0 : Int)) = true := by simp; omega
      rcases H0.out.cells with hz | ⟨b, off, rfl, _, hc⟩
      · exfalso; omega
      · have hcx := hc p hlt
        clear hc
        have h45 : (f p == 45) = false := by
          have : ¬ f p = 45 := fun e => hno ⟨hlt, e⟩
          simpa using this
        clear hno
        go_wp2_with fail
        go_meet
        case rel => exact ⟨rfl, rfl⟩
    · have hd1 : decide ((p : Int) < (n0 : Int)) = false := by simp; omega
      clear hno
      go_wp2_with fail
      go_meet
      case rel => exact ⟨rfl, rfl⟩
  case rest =>
  obtain ⟨hw, rfl⟩ := hcut
  subst wc
  clear hno
  go_wp2_with fail
  refine (clone_any w a0 n0 c0 f H0.out Z0.out (by omega)).mono ?_
  rintro e w1 ⟨a1, c1, rfl, B1, Z1, L1⟩
  have B1' := Hid.mk' B1; clear B1
  have L1' := Hid.mk' L1; clear L1 Z1 H0 Z0
  go_wp2_with (at_make; refine wpList_make_full _ rfl _ _ 29 rfl w1.heap.size 5 i0 (.int .u8 0) 1 Try.underlying29 HI.out HZ0.out HZ1.out _ _ _ _ (n0 + 1) rfl rfl (by omega) (by omega) (by rw [HZ2.out]; omega) (by unfold maxLen; omega) (Nat.le_refl _) ?_)
  intro w2 hown hgrow
  have hb : Below w1.heap.size w1 w2 := (Below.refl _ _).grown hgrow (Nat.le_refl _) (by intro k hk; cases hk)
  rw [rowOf_zero (n0 + 1)] at hown
  have HO := Hid.mk' hown
  clear hown hgrow HI HZ0 HZ1 HZ2
  go_wp2_with fail
  go_loopw [6] (fun i wr => ∃ k : Nat, ∃ g : Nat → Int, k ≤ n0 ∧ i = .int .i64 k ∧ Hid (Under f p k g) ∧ Hid (wr.ownsRow w1.heap.size 5 1 (.slice (some ⟨w1.heap.size, 0, none⟩) (n0 + 1) (n0 + 1)) (n0 + 1) (rowOf g (n0 + 1))) ∧ Below w1.heap.size w1 wr) (fun i _ => n0 - (intOf i).toNat)
  case atStart => exact ⟨0, _, Nat.zero_le _, rfl, Under.zero f p, HO, hb⟩
  case round =>
    clear hb HO
    obtain ⟨k, g, hk, rfl, HU, HOr, hnx⟩ := hrel
    by_cases hkn : k < n0
    · rcases B1'.out.cells with hz | ⟨b, off, rfl, hlt, hc⟩
      · exfalso; omega
      · have hcx := (hnx.cell (p := ⟨b, off + k, none⟩) hlt).trans (hc k hkn)
        clear hc
        have HR := Hid.mk' (B1'.out.rng k hkn)
        by_cases hkp : k < p
        · have hdx := (HOr.out.cellAt k (by omega)).trans (rowOf_at (by omega))
          have hfx := HOr.out.frozenAt k
          have hst := (HOr.out.stored k (.int .u8 (f k))).1
          rw [rowOf_set] at hst
          have HST := Hid.mk' hst
          clear hst
          go_wp2_with fail
          go_roundw
          case rel => exact ⟨k + 1, _, by omega, by go_num, HU.out.lo hkp HR.out, HST, hnx.setCell (Nat.le_refl _) _⟩
          case measure => simp [intOf]; omega
        · have hdx := (HOr.out.cellAt (k + 1) (by omega)).trans (rowOf_at (by omega))
          have hfx := HOr.out.frozenAt (k + 1)
          have hst := (HOr.out.stored (k + 1) (.int .u8 (f k))).1
          rw [rowOf_set] at hst
          have HST := Hid.mk' hst
          clear hst
          go_wp2_with fail
          go_roundw
          case rel => exact ⟨k + 1, _, by omega, by go_num, HU.out.hi (by omega) HR.out, HST, hnx.setCell (Nat.le_refl _) _⟩
          case measure => simp [intOf]; omega
    · obtain rfl : k = n0 := by omega
      have hdx := (HOr.out.cellAt p (by omega)).trans (rowOf_at (by omega))
      have hfx := HOr.out.frozenAt p
      have hst := (HOr.out.stored p (.int .u8 45)).1
      rw [rowOf_set] at hst
      have HB := Hid.mk' ((Bs.of_rowOf hst (by unfold maxLen; omega) (fun i _ => HU.out.rng i)).congr (HU.out.done hp))
      have L2 : Below w1.heap.size w1 (wr.setCell ⟨w1.heap.size, p, none⟩ (.int .u8 45)) := hnx.setCell (Nat.le_refl _) _
      have HA := Hid.mk' (B1'.out.later L2)
      have HL := Hid.mk' (L1'.out.trans (L2.mono L1'.out.size))
      clear hst L2 hnx HOr B1'
      go_wp2_with fail
      refine (zznum_any _ a1 k c1 f p HA.out (by omega) (by omega)).mono ?_
      rintro e w' ⟨rfl, hw⟩
      subst w'
      go_wp2_with fail
      refine (zznum_any _ (some ⟨w1.heap.size, 0, none⟩) (k + 1) (k + 1) (signed f p) p HB.out (by omega) (by omega)).mono ?_
      rintro e w' ⟨rfl, hw⟩
      subst w'
      rw [num_sign f (signed f p) k p hp (signed_at f p) (fun i hi => signed_hi f p i hi) HNO.out]
      have hr := num_range f k p
      generalize num f k p = r at *
      rcases hr with hr | ⟨hr1, hr2⟩
      · subst hr
        rw [show up (-1) = -1 from rfl]
        go_wp2_with fail
        go_ret
        exact ⟨rfl, HL.out⟩
      · rw [show up r = r + 1 from if_neg (by omega)]
        go_wp2_with fail
        go_ret
        exact ⟨rfl, HL.out⟩
end Go.Proofs.Qxb6600349a
