/-
  THE WALKS OF FnScanNumberSelfDelimiting (8) AND FnScanNumberMinus (9).
-/
import Derived.Test.Qxb6600349aNumWalks
import Derived.Test.Qxb6600349aNumLaw2
namespace Go.Proofs.Qxb6600349a
open Go.RowKit

set_option maxHeartbeats 400000 in
theorem zb17_yes (w : World) (a0 : Option Addr) (n0 c0 : Nat) (p : Int) (h : n0 ≤ 1048576) :
    Calls Try.prog 17 #[.slice a0 n0 c0, .int .i64 p] w fun e w' => e = .returned (.bool true) ∧ w' = w := by
  go_enter Try.func17, Try.ntmps17
  go_wp2
  go_ret
  exact ⟨rfl, rfl⟩
set_option maxHeartbeats 400000 in
theorem zb17_no (w : World) (a0 : Option Addr) (n0 c0 : Nat) (p : Int) (h : 1048576 < n0) :
    Calls Try.prog 17 #[.slice a0 n0 c0, .int .i64 p] w fun e w' => e = .returned (.bool false) ∧ w' = w := by
  go_enter Try.func17, Try.ntmps17
  go_wp2
  go_ret
  exact ⟨rfl, rfl⟩

set_option maxHeartbeats 400000 in
theorem zb20_yes (w : World) (a0 : Option Addr) (n0 c0 : Nat) (p : Int) (h : n0 ≤ 1048576) :
    Calls Try.prog 20 #[.slice a0 n0 c0, .int .i64 p] w fun e w' => e = .returned (.bool true) ∧ w' = w := by
  go_enter Try.func20, Try.ntmps20
  go_wp2
  go_ret
  exact ⟨rfl, rfl⟩
set_option maxHeartbeats 400000 in
theorem zb20_no (w : World) (a0 : Option Addr) (n0 c0 : Nat) (p : Int) (h : 1048576 < n0) :
    Calls Try.prog 20 #[.slice a0 n0 c0, .int .i64 p] w fun e w' => e = .returned (.bool false) ∧ w' = w := by
  go_enter Try.func20, Try.ntmps20
  go_wp2
  go_ret
  exact ⟨rfl, rfl⟩

set_option maxHeartbeats 400000 in
theorem zb21_yes (w : World) (a0 : Option Addr) (n0 c0 : Nat) (p : Int) (h : n0 ≤ 1048576) :
    Calls Try.prog 21 #[.slice a0 n0 c0, .int .i64 p] w fun e w' => e = .returned (.bool true) ∧ w' = w := by
  go_enter Try.func21, Try.ntmps21
  go_wp2
  go_ret
  exact ⟨rfl, rfl⟩
set_option maxHeartbeats 400000 in
theorem zb21_no (w : World) (a0 : Option Addr) (n0 c0 : Nat) (p : Int) (h : 1048576 < n0) :
    Calls Try.prog 21 #[.slice a0 n0 c0, .int .i64 p] w fun e w' => e = .returned (.bool false) ∧ w' = w := by
  go_enter Try.func21, Try.ntmps21
  go_wp2
  go_ret
  exact ⟨rfl, rfl⟩

set_option maxHeartbeats 400000 in
theorem t7_big (w : World) (a0 : Option Addr) (n0 c0 : Nat) (p : Int) (h : 1048576 < n0) :
    Calls Try.prog 7 #[.slice a0 n0 c0, .int .i64 p] w fun e w' => e = .returned (.bool true) ∧ Below w.heap.size w w' := by
  go_enter Try.func7, Try.ntmps7
  go_wp2_with fail
  refine (zb17_no w a0 n0 c0 p h).mono ?_
  rintro e w' ⟨rfl, hw⟩
  subst w'
  go_wp2_with fail
  go_ret
  exact ⟨rfl, Below.refl _ _⟩

set_option maxHeartbeats 400000 in
theorem t7_neg (w : World) (a0 : Option Addr) (n0 c0 : Nat) (p : Int) (h : n0 ≤ 1048576) (hp : p < 0) :
    Calls Try.prog 7 #[.slice a0 n0 c0, .int .i64 p] w fun e w' => e = .returned (.bool true) ∧ Below w.heap.size w w' := by
  go_enter Try.func7, Try.ntmps7
  go_wp2_with fail
  refine (zb17_yes w a0 n0 c0 p h).mono ?_
  rintro e w' ⟨rfl, hw⟩
  subst w'
  go_wp2_with fail
  go_ret
  exact ⟨rfl, Below.refl _ _⟩

set_option maxHeartbeats 400000 in
theorem t8_big (w : World) (a0 : Option Addr) (n0 c0 : Nat) (p : Int) (h : 1048576 < n0) :
    Calls Try.prog 8 #[.slice a0 n0 c0, .int .i64 p] w fun e w' => e = .returned (.bool true) ∧ Below w.heap.size w w' := by
  go_enter Try.func8, Try.ntmps8
  go_wp2_with fail
  refine (zb20_no w a0 n0 c0 p h).mono ?_
  rintro e w' ⟨rfl, hw⟩
  subst w'
  go_wp2_with fail
  go_ret
  exact ⟨rfl, Below.refl _ _⟩

set_option maxHeartbeats 400000 in
theorem t8_neg (w : World) (a0 : Option Addr) (n0 c0 : Nat) (p : Int) (h : n0 ≤ 1048576) (hp : p < 0) :
    Calls Try.prog 8 #[.slice a0 n0 c0, .int .i64 p] w fun e w' => e = .returned (.bool true) ∧ Below w.heap.size w w' := by
  go_enter Try.func8, Try.ntmps8
  go_wp2_with fail
  refine (zb20_yes w a0 n0 c0 p h).mono ?_
  rintro e w' ⟨rfl, hw⟩
  subst w'
  go_wp2_with fail
  go_ret
  exact ⟨rfl, Below.refl _ _⟩

set_option maxHeartbeats 400000 in
theorem t9_big (w : World) (a0 : Option Addr) (n0 c0 : Nat) (p : Int) (h : 1048576 < n0) :
    Calls Try.prog 9 #[.slice a0 n0 c0, .int .i64 p] w fun e w' => e = .returned (.bool true) ∧ Below w.heap.size w w' := by
  go_enter Try.func9, Try.ntmps9
  go_wp2_with fail
  refine (zb21_no w a0 n0 c0 p h).mono ?_
  rintro e w' ⟨rfl, hw⟩
  subst w'
  go_wp2_with fail
  go_ret
  exact ⟨rfl, Below.refl _ _⟩

set_option maxHeartbeats 400000 in
theorem t9_neg (w : World) (a0 : Option Addr) (n0 c0 : Nat) (p : Int) (h : n0 ≤ 1048576) (hp : p < 0) :
    Calls Try.prog 9 #[.slice a0 n0 c0, .int .i64 p] w fun e w' => e = .returned (.bool true) ∧ Below w.heap.size w w' := by
  go_enter Try.func9, Try.ntmps9
  go_wp2_with fail
  refine (zb21_yes w a0 n0 c0 p h).mono ?_
  rintro e w' ⟨rfl, hw⟩
  subst w'
  go_wp2_with fail
  go_ret
  exact ⟨rfl, Below.refl _ _⟩

set_option maxHeartbeats 1000000 in
theorem t8_in (w : World) (a0 : Option Addr) (n0 c0 : Nat) (f : Nat → Int) (p : Nat)
    (h0 : Bs w a0 n0 c0 f) (z0 : a0 = none → n0 = 0) (h : n0 ≤ 1048576) (hp : p ≤ 9223372036854775807) :
    Calls Try.prog 8 #[.slice a0 n0 c0, .int .i64 p] w fun e w' => e = .returned (.bool true) ∧ Below w.heap.size w w' := by
  have H0 := Hid.mk' h0; clear h0
  have Z0 := Hid.mk' z0; clear z0
  go_enter Try.func8, Try.ntmps8
  go_wp2_with fail
  refine (zb20_yes w a0 n0 c0 p h).mono ?_
  rintro e w' ⟨rfl, hw⟩
  subst w'
  go_wp2_with fail
  refine (clone_any w a0 n0 c0 f H0.out Z0.out (by omega)).mono ?_
  rintro e w1 ⟨a1, c1, rfl, B1, Z1, L1⟩
  have B1' := Hid.mk' B1; clear B1
  have L1' := Hid.mk' L1; clear L1 Z1
  go_wp2_with fail
  refine (zznum_any w1 a1 n0 c1 f p B1'.out (by omega) hp).mono ?_
  rintro e w' ⟨rfl, hw⟩
  subst w'
  have hr := num_range f n0 p
  generalize he : num f n0 p = r at *
  have HE := Hid.mk' he; clear he
  rcases hr with hr | ⟨hr1, hr2⟩
  · subst hr
    go_wp2_with fail
    go_ret
    exact ⟨rfl, L1'.out⟩
  · obtain ⟨q, rfl⟩ := Int.eq_ofNat_of_zero_le (show 0 ≤ r by omega)
    have hq : q ≤ n0 := by omega
    rcases B1'.out.cells with hz | ⟨b, off, rfl, hlt, _⟩
    · exfalso; omega
    · have hcap := B1'.out.le
      have hd2 : decide ((q : Int) ≤ (p : Int)) = false := by simp; omega
      go_wp2_with fail
      refine (zznum_any w1 (some ⟨b, off, none⟩) q c1 f p (B1'.out.take hq) (by omega) hp).mono ?_
      rintro e w' ⟨rfl, hw⟩
      subst w'
      rw [num_cut f n0 p q HE.out]
      go_wp2_with fail
      go_ret
      exact ⟨rfl, L1'.out⟩
end Go.Proofs.Qxb6600349a
