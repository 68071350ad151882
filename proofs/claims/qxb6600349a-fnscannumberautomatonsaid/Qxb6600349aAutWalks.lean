/-
  THE WALKS OF numAccepting (26), numberModel (19), FnScanNumberAutomaton (7).
-/
import Derived.Test.Qxb6600349aAutNext
namespace Go.Proofs.Qxb6600349a
open Go.RowKit

theorem next_any (st : Nat) (hs : st ≤ 8) (c : Int) (w : World) : Calls Try.prog 25 #[.int .i64 st, .int .u8 c] w fun e w' => e = .returned (.int .i64 (nx st c)) ∧ w' = w := by
  match st, hs with
  | 0, _ => exact next0 c w
  | 1, _ => exact next1 c w
  | 2, _ => exact next2 c w
  | 3, _ => exact next3 c w
  | 4, _ => exact next4 c w
  | 5, _ => exact next5 c w
  | 6, _ => exact next6 c w
  | 7, _ => exact next7 c w
  | 8, _ => exact next8 c w

set_option maxHeartbeats 400000 in
theorem acc_any (st : Nat) (w : World) : Calls Try.prog 26 #[.int .i64 st] w fun e w' => e = .returned (.bool (acc st)) ∧ w' = w := by
  have ha : acc st = ((((st : Int) == 2) || ((st : Int) == 3)) || ((st : Int) == 5) || ((st : Int) == 8)) := by
    unfold acc
    rw [Bool.eq_iff_iff]; simp; omega
  rw [ha]
  by_cases h2 : ((st : Int) == 2) = true
  · rw [h2]
    go_enter Try.func26, Try.ntmps26
    go_wp2
    go_ret
    exact ⟨rfl, rfl⟩
  · have h2' : ((st : Int) == 2) = false := by simpa using h2
    clear h2
    rw [h2']
    by_cases h3 : ((st : Int) == 3) = true
    · rw [h3]
      go_enter Try.func26, Try.ntmps26
      go_wp2
      go_ret
      exact ⟨rfl, rfl⟩
    · have h3' : ((st : Int) == 3) = false := by simpa using h3
      clear h3
      rw [h3']
      by_cases h5 : ((st : Int) == 5) = true
      · rw [h5]
        go_enter Try.func26, Try.ntmps26
        go_wp2
        go_ret
        exact ⟨rfl, rfl⟩
      · have h5' : ((st : Int) == 5) = false := by simpa using h5
        clear h5
        rw [h5']
        go_enter Try.func26, Try.ntmps26
        go_wp2
        go_ret
        exact ⟨rfl, rfl⟩

set_option maxHeartbeats 1000000 in
theorem model_any (w : World) (a : Option Addr) (n cap p : Nat) (f : Nat → Int) (h : Bs w a n cap f) (hn : n ≤ 4194304) (hp : p ≤ 9223372036854775807) :
    Calls Try.prog 19 #[.slice a n cap, .int .i64 p] w fun e w' => e = .returned (.int .i64 (mdl f n 0 p)) ∧ w' = w := by
  have H := Hid.mk' h; clear h
  generalize hres : mdl f n 0 p = res
  have HRES := Hid.mk' hres; clear hres
  go_enter Try.func19, Try.ntmps19
  go_wp2_with fail
  go_loopw [5, 6, 7] (fun s i _ wr => wr = w ∧ ∃ st k : Nat, st ≤ 8 ∧ k ≤ 9223372036854775807 ∧ s = .int .i64 st ∧ i = .int .i64 k ∧ Hid (mdl f n st k = res)) (fun _ i _ _ => n - (intOf i).toNat)
  case atStart => exact ⟨rfl, 0, p, by omega, hp, rfl, rfl, HRES⟩
  case round =>
    obtain ⟨hw, st, k, hst, hkm, rfl, rfl, HK⟩ := hrel
    subst wr
    have hfin : ¬ (k < n ∧ 0 ≤ nx st (f k)) → Hid (fin st k = res) := fun hno => (m_stop hno).symm.trans HK.out
    by_cases hlt : k < n
    · rcases H.out.cells with h0 | ⟨b, off, rfl, _, hc⟩
      · exfalso; omega
      · have hcx := hc k hlt
        clear hc
        have HF := Hid.mk' hfin; clear hfin
        go_wp2_with fail
        refine (next_any st hst (f k) w).mono ?_
        rintro e w' ⟨rfl, hw⟩
        subst w'
        have hr := nx_range st (f k)
        have HNX : Hid (∀ t : Nat, nx st (f k) = t → mdl f n t (k + 1) = res) := fun t ht => (m_step hlt ht).symm.trans HK.out
        have HF' := Hid.mk' (fun hneg : nx st (f k) < 0 => HF.out (by omega)); clear HF
        generalize hx : nx st (f k) = x at *
        have HX := Hid.mk' hx; clear hx
        rcases hr with hr | ⟨hr1, hr2⟩
        · have HE := Hid.mk' (HF'.out (by omega)).out
          subst hr
          clear HF' HNX
          go_wp2_with fail
          refine (acc_any st w).mono ?_
          rintro e w' ⟨rfl, hw⟩
          subst w'
          cases hacc : acc st with
          | true =>
            have HR := Hid.mk' (HE.out.symm.trans (show fin st k = (k : Int) from if_pos hacc))
            clear hacc
            go_wp2_with fail
            go_ret
            exact ⟨ret_int' HR.out.symm, rfl⟩
          | false =>
            have HR := Hid.mk' (HE.out.symm.trans (show fin st k = -1 from if_neg (by rw [hacc]; simp)))
            clear hacc
            go_wp2_with fail
            go_ret
            exact ⟨ret_int' HR.out.symm, rfl⟩
        · obtain ⟨t, rfl⟩ := Int.eq_ofNat_of_zero_le hr1
          have HT := Hid.mk' (HNX.out t rfl)
          clear HF' HNX
          go_wp2_with fail
          go_roundw
          case rel => exact ⟨trivial, t, k + 1, by omega, by omega, rfl, by go_num, HT⟩
          case measure => simp [intOf]; omega
    · have HE := Hid.mk' (hfin (by omega)).out
      clear hfin
      go_wp2_with fail
      refine (acc_any st w).mono ?_
      rintro e w' ⟨rfl, hw⟩
      subst w'
      cases hacc : acc st with
      | true =>
        have HR := Hid.mk' (HE.out.symm.trans (show fin st k = (k : Int) from if_pos hacc))
        clear hacc
        go_wp2_with fail
        go_ret
        exact ⟨ret_int' HR.out.symm, rfl⟩
      | false =>
        have HR := Hid.mk' (HE.out.symm.trans (show fin st k = -1 from if_neg (by rw [hacc]; simp)))
        clear hacc
        go_wp2_with fail
        go_ret
        exact ⟨ret_int' HR.out.symm, rfl⟩

set_option maxHeartbeats 1000000 in
theorem t7_in (w : World) (a0 : Option Addr) (n0 c0 : Nat) (f : Nat → Int) (p : Nat)
    (h0 : Bs w a0 n0 c0 f) (z0 : a0 = none → n0 = 0) (h : n0 ≤ 1048576) (hp : p ≤ 9223372036854775807) :
    Calls Try.prog 7 #[.slice a0 n0 c0, .int .i64 p] w fun e w' => e = .returned (.bool true) ∧ Below w.heap.size w w' := by
  have H0 := Hid.mk' h0; clear h0
  have Z0 := Hid.mk' z0; clear z0
  go_enter Try.func7, Try.ntmps7
  go_wp2_with fail
  refine (zb17_yes w a0 n0 c0 p h).mono ?_
  rintro e w' ⟨rfl, hw⟩
  subst w'
  go_wp2_with fail
  refine (clone_any w a0 n0 c0 f H0.out Z0.out (by omega)).mono ?_
  rintro e w1 ⟨a1, c1, rfl, B1, Z1, L1⟩
  have B1' := Hid.mk' B1; clear B1
  have L1' := Hid.mk' L1; clear L1 Z1
  go_wp2_with fail
  refine (zznum_any w1 a1 n0 c1 f p B1'.out (by omega) hp).mono ?_
  rintro e w' ⟨rfl, hw⟩
  subst w'
  go_wp2_with fail
  refine (model_any w1 a1 n0 c1 p f B1'.out (by omega) hp).mono ?_
  rintro e w' ⟨rfl, hw⟩
  subst w'
  rw [M0]
  go_wp2_with fail
  go_ret
  exact ⟨by simp, L1'.out⟩
end Go.Proofs.Qxb6600349a
