/-
  THE WALKS OF FnScanEscapePrefixShift (5) AND FnScanEscapeExtension (6).
-/
import Derived.Test.Qxb6600349aClone
import Derived.Test.Qxb6600349aEscWalks
namespace Go.Proofs.Qxb6600349a
open Go.RowKit

set_option maxHeartbeats 400000 in
theorem t5_big (w : World) (a0 : Option Addr) (n0 c0 : Nat) (a1 : Option Addr) (n1 c1 : Nat) (p : Int) (h : 1048576 < n0 + n1) :
    Calls Try.prog 5 #[.slice a0 n0 c0, .slice a1 n1 c1, .int .i64 p] w fun e w' => e = .returned (.bool true) ∧ Below w.heap.size w w' := by
  go_enter Try.func5, Try.ntmps5
  go_wp2_with fail
  refine (zb12_no w a0 n0 c0 a1 n1 c1 p h).mono ?_
  rintro e w' ⟨rfl, hw⟩
  subst w'
  go_wp2_with fail
  go_ret
  exact ⟨rfl, Below.refl _ _⟩

set_option maxHeartbeats 400000 in
theorem t5_out (w : World) (a0 : Option Addr) (n0 c0 : Nat) (a1 : Option Addr) (n1 c1 : Nat) (p : Int) (h : n0 + n1 ≤ 1048576) (hp : p < 0 ∨ (n1 : Int) < p) :
    Calls Try.prog 5 #[.slice a0 n0 c0, .slice a1 n1 c1, .int .i64 p] w fun e w' => e = .returned (.bool true) ∧ Below w.heap.size w w' := by
  rcases hp with hp | hp
  · go_enter Try.func5, Try.ntmps5
    go_wp2_with fail
    refine (zb12_yes w a0 n0 c0 a1 n1 c1 p h).mono ?_
    rintro e w' ⟨rfl, hw⟩
    subst w'
    go_wp2_with fail
    go_ret
    exact ⟨rfl, Below.refl _ _⟩
  · have hd : decide (p < 0) = false := by simp; omega
    go_enter Try.func5, Try.ntmps5
    go_wp2_with fail
    refine (zb12_yes w a0 n0 c0 a1 n1 c1 p h).mono ?_
    rintro e w' ⟨rfl, hw⟩
    subst w'
    go_wp2_with fail
    go_ret
    exact ⟨rfl, Below.refl _ _⟩

set_option maxHeartbeats 1000000 in
theorem t5_in (w : World) (a0 : Option Addr) (n0 c0 : Nat) (g : Nat → Int) (a1 : Option Addr) (n1 c1 : Nat) (f : Nat → Int) (p : Nat)
    (h0 : Bs w a0 n0 c0 g) (z0 : a0 = none → n0 = 0) (h1 : Bs w a1 n1 c1 f) (z1 : a1 = none → n1 = 0) (h : n0 + n1 ≤ 1048576) (hp : p ≤ n1) :
    Calls Try.prog 5 #[.slice a0 n0 c0, .slice a1 n1 c1, .int .i64 p] w fun e w' => e = .returned (.bool true) ∧ Below w.heap.size w w' := by
  have H0 := Hid.mk' h0; clear h0
  have H1 := Hid.mk' h1; clear h1
  have Z0 := Hid.mk' z0; clear z0
  have Z1 := Hid.mk' z1; clear z1
  have hd : decide ((p : Int) < 0) = false := by simp
  go_enter Try.func5, Try.ntmps5
  go_wp2_with fail
  refine (zb12_yes w a0 n0 c0 a1 n1 c1 p h).mono ?_
  rintro e w' ⟨rfl, hw⟩
  subst w'
  go_wp2_with fail
  refine (clone_any w a0 n0 c0 g H0.out Z0.out (by omega)).mono ?_
  rintro e w1 ⟨a0', c0', rfl, B0, Z0', L1⟩
  have H1' := Hid.mk' (H1.out.later L1)
  have B0' := Hid.mk' B0; clear B0
  have Z0'' := Hid.mk' Z0'; clear Z0'
  have L1' := Hid.mk' L1; clear L1
  go_wp2_with fail
  refine (clone_any w1 a1 n1 c1 f H1'.out Z1.out (by omega)).mono ?_
  rintro e w2 ⟨a1', c1', rfl, B1, Z1', L2⟩
  have B0'' := Hid.mk' (B0'.out.later L2)
  have B1' := Hid.mk' B1; clear B1
  have L2' := Hid.mk' (L1'.out.trans (L2.mono L1'.out.size)); clear L2 Z1'
  clear H0 H1 Z0 Z1 H1' B0' Z0'' L1'
  go_wp2_with fail
  refine (zzesc_any w2 a1' n1 c1' f p p B1'.out (by omega) rfl hp).mono ?_
  rintro e w' ⟨rfl, hw⟩
  subst w'
  go_wp2_with fail
  refine (join_any w2 a0' n0 c0' g a1' n1 c1' f B0''.out B1'.out (by omega) (by omega)).mono ?_
  rintro e w3 ⟨a2, rfl, B2, L3⟩
  have B2' := Hid.mk' B2; clear B2
  have L3' := Hid.mk' (L2'.out.trans (L3.mono L2'.out.size)); clear L3 L2' B1' B0''
  go_wp2_with fail
  refine (zzesc_any w3 a2 (n0 + n1) (n0 + n1) (jn g n0 f) _ (n0 + p) B2'.out (by omega) (by omega) (by omega)).mono ?_
  rintro e w' ⟨rfl, hw⟩
  subst w'
  rw [esc_shift g f n0 n1 p]
  have hr := esc_range f n1 p hp
  generalize esc f n1 p = r at *
  clear B2'
  rcases hr with hr | ⟨hr1, hr2⟩
  · subst hr
    go_wp2_with fail
    go_ret
    exact ⟨rfl, L3'.out⟩
  · have hne : (r == -1) = false := by simp; omega
    rw [if_neg (by omega)]
    go_wp2_with fail
    go_ret
    exact ⟨rfl, L3'.out⟩

set_option maxHeartbeats 400000 in
theorem t6_big (w : World) (a0 : Option Addr) (n0 c0 : Nat) (a1 : Option Addr) (n1 c1 : Nat) (p : Int) (h : 1048576 < n0 + n1) :
    Calls Try.prog 6 #[.slice a0 n0 c0, .slice a1 n1 c1, .int .i64 p] w fun e w' => e = .returned (.bool true) ∧ Below w.heap.size w w' := by
  go_enter Try.func6, Try.ntmps6
  go_wp2_with fail
  refine (zb16_no w a0 n0 c0 a1 n1 c1 p h).mono ?_
  rintro e w' ⟨rfl, hw⟩
  subst w'
  go_wp2_with fail
  go_ret
  exact ⟨rfl, Below.refl _ _⟩

set_option maxHeartbeats 400000 in
theorem t6_out (w : World) (a0 : Option Addr) (n0 c0 : Nat) (a1 : Option Addr) (n1 c1 : Nat) (p : Int) (h : n0 + n1 ≤ 1048576) (hp : p < 0 ∨ (n0 : Int) < p) :
    Calls Try.prog 6 #[.slice a0 n0 c0, .slice a1 n1 c1, .int .i64 p] w fun e w' => e = .returned (.bool true) ∧ Below w.heap.size w w' := by
  rcases hp with hp | hp
  · go_enter Try.func6, Try.ntmps6
    go_wp2_with fail
    refine (zb16_yes w a0 n0 c0 a1 n1 c1 p h).mono ?_
    rintro e w' ⟨rfl, hw⟩
    subst w'
    go_wp2_with fail
    go_ret
    exact ⟨rfl, Below.refl _ _⟩
  · have hd : decide (p < 0) = false := by simp; omega
    go_enter Try.func6, Try.ntmps6
    go_wp2_with fail
    refine (zb16_yes w a0 n0 c0 a1 n1 c1 p h).mono ?_
    rintro e w' ⟨rfl, hw⟩
    subst w'
    go_wp2_with fail
    go_ret
    exact ⟨rfl, Below.refl _ _⟩

set_option maxHeartbeats 1000000 in
theorem t6_in (w : World) (a0 : Option Addr) (n0 c0 : Nat) (f : Nat → Int) (a1 : Option Addr) (n1 c1 : Nat) (g : Nat → Int) (p : Nat)
    (h0 : Bs w a0 n0 c0 f) (z0 : a0 = none → n0 = 0) (h1 : Bs w a1 n1 c1 g) (z1 : a1 = none → n1 = 0) (h : n0 + n1 ≤ 1048576) (hp : p ≤ n0) :
    Calls Try.prog 6 #[.slice a0 n0 c0, .slice a1 n1 c1, .int .i64 p] w fun e w' => e = .returned (.bool true) ∧ Below w.heap.size w w' := by
  have H0 := Hid.mk' h0; clear h0
  have H1 := Hid.mk' h1; clear h1
  have Z0 := Hid.mk' z0; clear z0
  have Z1 := Hid.mk' z1; clear z1
  have hd : decide ((p : Int) < 0) = false := by simp
  go_enter Try.func6, Try.ntmps6
  go_wp2_with fail
  refine (zb16_yes w a0 n0 c0 a1 n1 c1 p h).mono ?_
  rintro e w' ⟨rfl, hw⟩
  subst w'
  go_wp2_with fail
  refine (clone_any w a0 n0 c0 f H0.out Z0.out (by omega)).mono ?_
  rintro e w1 ⟨a0', c0', rfl, B0, Z0', L1⟩
  have H1' := Hid.mk' (H1.out.later L1)
  have B0' := Hid.mk' B0; clear B0
  have Z0'' := Hid.mk' Z0'; clear Z0'
  have L1' := Hid.mk' L1; clear L1
  go_wp2_with fail
  refine (clone_any w1 a1 n1 c1 g H1'.out Z1.out (by omega)).mono ?_
  rintro e w2 ⟨a1', c1', rfl, B1, Z1', L2⟩
  have B0'' := Hid.mk' (B0'.out.later L2)
  have B1' := Hid.mk' B1; clear B1
  have L2' := Hid.mk' (L1'.out.trans (L2.mono L1'.out.size)); clear L2 Z1'
  clear H0 H1 Z0 Z1 H1' B0' L1'
  go_wp2_with fail
  refine (zzesc_any w2 a0' n0 c0' f p p B0''.out (by omega) rfl hp).mono ?_
  rintro e w' ⟨rfl, hw⟩
  subst w'
  have hr := esc_range f n0 p hp
  generalize he : esc f n0 p = r at *
  have HE := Hid.mk' he; clear he
  rcases hr with hr | ⟨hr1, hr2⟩
  · subst hr
    by_cases h5 : p + 5 ≤ n0
    · go_wp2_with fail
      refine (join_any w2 a0' n0 c0' f a1' n1 c1' g B0''.out B1'.out (by omega) (by omega)).mono ?_
      rintro e w3 ⟨a2, rfl, B2, L3⟩
      have B2' := Hid.mk' B2; clear B2
      have L3' := Hid.mk' (L2'.out.trans (L3.mono L2'.out.size)); clear L3 L2' B1' B0''
      go_wp2_with fail
      refine (zzesc_any w3 a2 (n0 + n1) (n0 + n1) (jn f n0 g) p p B2'.out (by omega) rfl (by omega)).mono ?_
      rintro e w' ⟨rfl, hw⟩
      subst w'
      rw [esc_stay f g n0 n1 p h5 HE.out]
      go_wp2_with fail
      go_ret
      exact ⟨rfl, L3'.out⟩
    · go_wp2_with fail
      go_ret
      exact ⟨rfl, L2'.out⟩
  · obtain ⟨q, rfl⟩ := Int.eq_ofNat_of_zero_le (show 0 ≤ r by omega)
    have hq : q ≤ n0 := by omega
    rcases B0''.out.cells with hz | ⟨b, off, rfl, hlt, _⟩
    · exfalso; omega
    · have hcap := B0''.out.le
      have hd2 : decide ((q : Int) ≤ (p : Int)) = false := by simp; omega
      go_wp2_with fail
      refine (join_any w2 (some ⟨b, off, none⟩) q c0' f a1' n1 c1' g (B0''.out.take hq) B1'.out (by omega) (by omega)).mono ?_
      rintro e w3 ⟨a2, rfl, B2, L3⟩
      have B2' := Hid.mk' B2; clear B2
      have L3' := Hid.mk' (L2'.out.trans (L3.mono L2'.out.size)); clear L3 L2' B1' B0''
      go_wp2_with fail
      refine (zzesc_any w3 a2 (q + n1) (q + n1) (jn f q g) p p B2'.out (by omega) rfl (by omega)).mono ?_
      rintro e w' ⟨rfl, hw⟩
      subst w'
      rw [esc_keep f g n0 n1 p q hp HE.out]
      go_wp2_with fail
      go_ret
      exact ⟨rfl, L3'.out⟩
end Go.Proofs.Qxb6600349a
