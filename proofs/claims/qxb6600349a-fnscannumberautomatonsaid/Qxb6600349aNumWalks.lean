/-
  THE WALKS OF scanDigits (27), scanNumber (24), ZZscanNumber (18).
-/
import Derived.Test.Qxb6600349aRows
import Derived.Test.Qxb6600349aBytes
import Derived.Test.Qxb6600349aClone
import Derived.Test.Qxb6600349aNumLaw
import Derived.WalkKit
import Derived.WalkSpells
import Derived.WalkLawsBesides
import Derived.Deep.DeepCutAuto
namespace Go.Proofs.Qxb6600349a
open Go.RowKit

theorem ret_int' {k : IntKind} {a b : Int} (h : a = b) : Ending.returned (.int k a) = .returned (.int k b) := by rw [h]

set_option maxHeartbeats 400000 in
theorem digits_any (w : World) (a : Option Addr) (n cap p : Nat) (f : Nat → Int) (q : Int) (hq : q = p) (h : Bs w a n cap f) (hn : n ≤ 4194304) :
    Calls Try.prog 27 #[.slice a n cap, .int .i64 q] w fun e w' => e = .returned (.int .i64 (sd f n p)) ∧ w' = w := by
  subst hq
  have H := Hid.mk' h; clear h
  generalize hres : sd f n p = res
  have HRES := Hid.mk' hres; clear hres
  go_enter Try.func27, Try.ntmps27
  go_wp2_with fail
  go_loop [1] (fun i => ∃ k : Nat, p ≤ k ∧ (k = p ∨ k ≤ n) ∧ i = .int .i64 k ∧ Hid (dr f n k = dr f n p)) (fun i => n - (intOf i).toNat)
  case atStart => exact ⟨p, Nat.le_refl _, .inl rfl, rfl, rfl⟩
  case round =>
    obtain ⟨k, hk, hkn, rfl, HK⟩ := hrel
    have hfin : ¬ (k < n ∧ dig (f k) = true) → Hid (res = if k = p then -1 else (k : Int)) := fun hno => by
      have e : dr f n p = k := by rw [← HK.out]; exact dr_no hno
      rw [← HRES.out]; unfold sd; rw [e]; exact rfl
    by_cases hlt : k < n
    · rcases H.out.cells with h0 | ⟨b, off, rfl, _, hc⟩
      · exfalso; omega
      · have hcx := hc k hlt
        clear hc
        have hyes : dig (f k) = true → Hid (dr f n (k + 1) = dr f n p) := fun hd => by rw [← HK.out]; exact (dr_yes hlt hd).symm
        have hd1 : (decide ((k : Int) < (n : Int))) = true := by simp; omega
        generalize hcc : f k = c at *
        by_cases h48 : 48 ≤ c
        · have d1 : decide (48 ≤ c) = true := by simp; omega
          by_cases h57 : c ≤ 57
          · have d2 : decide (c ≤ 57) = true := by simp; omega
            have H2 := hyes (by unfold dig; simp; omega)
            clear hyes hfin hkn
            have HCC := Hid.mk' hcc; clear hcc
            go_wp2_with fail
            go_round
            case rel => exact ⟨k + 1, by omega, by omega, by go_num, H2⟩
            case measure => simp [intOf]; omega
          · have d2 : decide (c ≤ 57) = false := by simp; omega
            have H2 := hfin (by unfold dig; simp; omega)
            clear hyes hfin hkn
            have HCC := Hid.mk' hcc; clear hcc
            by_cases hkp : k = p
            · have hb : ((k : Int) == (p : Int)) = true := by simp; omega
              have HKP := Hid.mk' hkp; clear hkp
              go_wp2_with fail
              go_ret
              exact ⟨ret_int' (by rw [H2.out, if_pos HKP.out]), rfl⟩
            · have hb : ((k : Int) == (p : Int)) = false := by simp; omega
              have HKP := Hid.mk' hkp; clear hkp
              go_wp2_with fail
              go_ret
              exact ⟨ret_int' (by rw [H2.out, if_neg HKP.out]), rfl⟩
        · have d1 : decide (48 ≤ c) = false := by simp; omega
          have H2 := hfin (by unfold dig; simp; omega)
          clear hyes hfin hkn
          have HCC := Hid.mk' hcc; clear hcc
          by_cases hkp : k = p
          · have hb : ((k : Int) == (p : Int)) = true := by simp; omega
            have HKP := Hid.mk' hkp; clear hkp
            go_wp2_with fail
            go_ret
            exact ⟨ret_int' (by rw [H2.out, if_pos HKP.out]), rfl⟩
          · have hb : ((k : Int) == (p : Int)) = false := by simp; omega
            have HKP := Hid.mk' hkp; clear hkp
            go_wp2_with fail
            go_ret
            exact ⟨ret_int' (by rw [H2.out, if_neg HKP.out]), rfl⟩
    · have hd1 : (decide ((k : Int) < (n : Int))) = false := by simp; omega
      have H2 := hfin (by omega)
      clear hfin
      by_cases hkp : k = p
      · have hb : ((k : Int) == (p : Int)) = true := by simp; omega
        have HKP := Hid.mk' hkp; clear hkp
        go_wp2_with fail
        go_ret
        exact ⟨ret_int' (by rw [H2.out, if_pos HKP.out]), rfl⟩
      · have hb : ((k : Int) == (p : Int)) = false := by simp; omega
        have HKP := Hid.mk' hkp; clear hkp
        go_wp2_with fail
        go_ret
        exact ⟨ret_int' (by rw [H2.out, if_neg HKP.out]), rfl⟩

set_option maxRecDepth 1000000 in
set_option maxHeartbeats 1000000 in
theorem num_any (w : World) (a : Option Addr) (n cap p : Nat) (f : Nat → Int) (h : Bs w a n cap f) (hn : n ≤ 4194304) (hp : p ≤ 9223372036854775807) :
    Calls Try.prog 24 #[.slice a n cap, .int .i64 p] w fun e w' => e = .returned (.int .i64 (num f n p)) ∧ w' = w := by
  have H := Hid.mk' h; clear h
  generalize hres : num f n p = res
  have HRES := Hid.mk' hres; clear hres
  go_enter Try.func24, Try.ntmps24
  go_upto_region 1 with fail
  go_cut [15] (fun t wc => wc = w ∧ ∃ tb, t = .bool tb ∧ Hid (isB f n p 45 = tb))
  case first =>
    by_cases hlt : p < n
    · have hd : decide ((p : Int) < (n : Int)) = true := by simp; omega
      rcases H.out.cells with h0 | ⟨b, off, rfl, _, hc⟩
      · exfalso; omega
      · have hcx := hc p hlt
        clear hc
        have HB := Hid.mk' (isB_at (f := f) (c := 45) hlt)
        go_wp2_with fail
        go_meet
        case rel => exact ⟨rfl, _, rfl, HB⟩
    · have hd : decide ((p : Int) < (n : Int)) = false := by simp; omega
      go_wp2_with fail
      go_meet
      case rel => exact ⟨rfl, _, rfl, isB_end (by omega)⟩
  case rest =>
  obtain ⟨hw, tb, rfl, HB⟩ := hcut
  subst wc
  go_upto_if 15 with fail
  go_cut [1] (fun q wc => wc = w ∧ q = .int .i64 (s1 f n p : Nat))
  case first =>
    cases tb with
    | true =>
      have hlt := isB_lt HB.out
      go_wp2_with fail
      go_meet
      case rel => exact ⟨rfl, by unfold s1; rw [if_pos HB.out]; go_num⟩
    | false =>
      go_wp2_with fail
      go_meet
      case rel => exact ⟨rfl, by unfold s1; rw [if_neg (by rw [HB.out]; simp)]⟩
  case rest =>
  obtain ⟨hw, rfl⟩ := hcut
  subst wc
  have hr1 := s1_range f n p
  generalize hs1 : s1 f n p = p1 at *
  have HN := Hid.mk' (num_eq hs1); clear hs1
  have hp1 : p1 ≤ 9223372036854775807 := by omega
  clear hr1 HB
  go_upto_region 3 with fail
  go_cut [28] (fun t wc => wc = w ∧ ∃ tb, t = .bool tb ∧ Hid (isB f n p1 48 = tb))
  case first =>
    by_cases hlt : p1 < n
    · have hd : decide ((p1 : Int) < (n : Int)) = true := by simp; omega
      rcases H.out.cells with h0 | ⟨b, off, rfl, _, hc⟩
      · exfalso; omega
      · have hcx := hc p1 hlt
        clear hc
        have HB := Hid.mk' (isB_at (f := f) (c := 48) hlt)
        go_wp2_with fail
        go_meet
        case rel => exact ⟨rfl, _, rfl, HB⟩
    · have hd : decide ((p1 : Int) < (n : Int)) = false := by simp; omega
      go_wp2_with fail
      go_meet
      case rel => exact ⟨rfl, _, rfl, isB_end (by omega)⟩
  case rest =>
  obtain ⟨hw, tb2, rfl, HB⟩ := hcut
  subst wc
  go_upto_if 28 with fail
  go_cut [1] (fun q wc => wc = w ∧ ∃ k : Nat, q = .int .i64 k ∧ k ≤ n ∧ Hid (s2 f n p1 = k))
  case first =>
    cases tb2 with
    | true =>
      have hlt := isB_lt HB.out
      go_wp2_with fail
      go_meet
      case rel => exact ⟨rfl, p1 + 1, by go_num, by omega, by unfold s2; rw [if_pos HB.out]; exact rfl⟩
    | false =>
      have HB' := Hid.mk' (show s2 f n p1 = sd f n p1 from if_neg (by rw [HB.out]; simp)); clear HB
      go_wp2_with fail
      refine (digits_any w a n cap p1 f _ rfl H.out hn).mono ?_
      rintro e w' ⟨rfl, hw⟩
      subst w'
      have hr := sd_range f n p1
      generalize hsd : sd f n p1 = r at *
      have HSD := Hid.mk' hsd; clear hsd
      rcases hr with hr | ⟨hr1, hr2⟩
      · subst hr
        go_wp2_with fail
        go_ret
        exact ⟨ret_int' (by rw [← HRES.out, HN.out, tail2_no HB'.out]), rfl⟩
      · obtain ⟨k, rfl⟩ := Int.eq_ofNat_of_zero_le (show 0 ≤ r by omega)
        go_wp2_with fail
        go_meet
        case rel => exact ⟨rfl, k, rfl, by omega, HB'⟩
  case rest =>
  obtain ⟨hw, p2, rfl, hp2, HS2⟩ := hcut
  subst wc
  have HN2 := Hid.mk' (HN.out.trans (tail2_go HS2.out)); clear HN HS2 HB
  go_upto_region 8 with fail
  go_cut [46] (fun t wc => wc = w ∧ ∃ tb, t = .bool tb ∧ Hid (isB f n p2 46 = tb))
  case first =>
    by_cases hlt : p2 < n
    · have hd : decide ((p2 : Int) < (n : Int)) = true := by simp; omega
      rcases H.out.cells with h0 | ⟨b, off, rfl, _, hc⟩
      · exfalso; omega
      · have hcx := hc p2 hlt
        clear hc
        have HB := Hid.mk' (isB_at (f := f) (c := 46) hlt)
        go_wp2_with fail
        go_meet
        case rel => exact ⟨rfl, _, rfl, HB⟩
    · have hd : decide ((p2 : Int) < (n : Int)) = false := by simp; omega
      go_wp2_with fail
      go_meet
      case rel => exact ⟨rfl, _, rfl, isB_end (by omega)⟩
  case rest =>
  obtain ⟨hw, tb3, rfl, HB⟩ := hcut
  subst wc
  go_upto_if 46 with fail
  go_cut [1] (fun q wc => wc = w ∧ ∃ k : Nat, q = .int .i64 k ∧ k ≤ n ∧ Hid (s3 f n p2 = k))
  case first =>
    cases tb3 with
    | true =>
      have HB' := Hid.mk' (show s3 f n p2 = sd f n (p2 + 1) from if_pos HB.out); clear HB
      go_wp2_with fail
      refine (digits_any w a n cap (p2 + 1) f _ (by omega) H.out hn).mono ?_
      rintro e w' ⟨rfl, hw⟩
      subst w'
      have hr := sd_range f n (p2 + 1)
      generalize hsd : sd f n (p2 + 1) = r at *
      have HSD := Hid.mk' hsd; clear hsd
      rcases hr with hr | ⟨hr1, hr2⟩
      · subst hr
        go_wp2_with fail
        go_ret
        exact ⟨ret_int' (by rw [← HRES.out, HN2.out, tail3_no HB'.out]), rfl⟩
      · obtain ⟨k, rfl⟩ := Int.eq_ofNat_of_zero_le (show 0 ≤ r by omega)
        go_wp2_with fail
        go_meet
        case rel => exact ⟨rfl, k, rfl, by omega, HB'⟩
    | false =>
      go_wp2_with fail
      go_meet
      case rel => exact ⟨rfl, p2, rfl, by omega, if_neg (by rw [HB.out]; simp)⟩
  case rest =>
  obtain ⟨hw, p3, rfl, hp3, HS3⟩ := hcut
  subst wc
  have HN3 := Hid.mk' (HN2.out.trans (tail3_go HS3.out)); clear HN2 HS3 HB
  go_upto_region 12 with fail
  go_cut [70] (fun t wc => wc = w ∧ ∃ tb, t = .bool tb ∧ Hid (isB2 f n p3 101 69 = tb))
  case first =>
    by_cases hlt : p3 < n
    · have hd : decide ((p3 : Int) < (n : Int)) = true := by simp; omega
      rcases H.out.cells with h0 | ⟨b, off, rfl, _, hc⟩
      · exfalso; omega
      · have hcx := hc p3 hlt
        clear hc
        have HB := Hid.mk' (isB2_at (f := f) (c := 101) (d := 69) hlt)
        by_cases h1 : (f p3 == 101) = true
        · have HB1 := Hid.mk' h1
          go_wp2_with fail
          go_meet
          case rel => exact ⟨rfl, _, rfl, by rw [HB.out, HB1.out]; exact rfl⟩
        · have h1' : (f p3 == 101) = false := by simpa using h1
          have HB1 := Hid.mk' h1'; clear h1
          go_wp2_with fail
          go_meet
          case rel => exact ⟨rfl, _, rfl, by rw [HB.out, HB1.out]; exact rfl⟩
    · have hd : decide ((p3 : Int) < (n : Int)) = false := by simp; omega
      go_wp2_with fail
      go_meet
      case rel => exact ⟨rfl, _, rfl, isB2_end (by omega)⟩
  case rest =>
  obtain ⟨hw, tb4, rfl, HB⟩ := hcut
  subst wc
  cases tb4 with
  | false =>
    have HF := Hid.mk' (show s4 f n p3 = (p3 : Int) from if_neg (by rw [HB.out]; simp))
    go_wp2_with fail
    go_ret
    exact ⟨ret_int' (by rw [← HRES.out, HN3.out, HF.out]), rfl⟩
  | true =>
    have HF := Hid.mk' (show s4 f n p3 = sd f n (s4a f n (p3 + 1)) from if_pos HB.out)
    clear HB
    go_upto_region 14 with fail
    go_cut [90] (fun t wc => wc = w ∧ ∃ tb, t = .bool tb ∧ Hid (isB2 f n (p3 + 1) 43 45 = tb))
    case first =>
      by_cases hlt : p3 + 1 < n
      · have hd : decide ((p3 : Int) + 1 < (n : Int)) = true := by simp; omega
        rcases H.out.cells with h0 | ⟨b, off, rfl, _, hc⟩
        · exfalso; omega
        · have hcx := hc (p3 + 1) hlt
          clear hc
          have HB := Hid.mk' (isB2_at (f := f) (c := 43) (d := 45) hlt)
          by_cases h1 : (f (p3 + 1) == 43) = true
          · have HB1 := Hid.mk' h1
            go_wp2_with fail
            go_meet
            case rel => exact ⟨rfl, _, rfl, by rw [HB.out, HB1.out]; exact rfl⟩
          · have h1' : (f (p3 + 1) == 43) = false := by simpa using h1
            have HB1 := Hid.mk' h1'; clear h1
            go_wp2_with fail
            go_meet
            case rel => exact ⟨rfl, _, rfl, by rw [HB.out, HB1.out]; exact rfl⟩
      · have hd : decide ((p3 : Int) + 1 < (n : Int)) = false := by simp; omega
        go_wp2_with fail
        go_meet
        case rel => exact ⟨rfl, _, rfl, isB2_end (by omega)⟩
    case rest =>
    obtain ⟨hw, tb5, rfl, HB⟩ := hcut
    subst wc
    cases tb5 with
    | true =>
      have HG := Hid.mk' (show s4a f n (p3 + 1) = p3 + 1 + 1 from if_pos HB.out)
      go_wp2_with fail
      refine (digits_any w a n cap (p3 + 1 + 1) f _ (by omega) H.out hn).mono ?_
      rintro e w' ⟨rfl, hw⟩
      subst w'
      go_wp2_with fail
      go_ret
      exact ⟨ret_int' (by rw [← HRES.out, HN3.out, HF.out, HG.out]), rfl⟩
    | false =>
      have HG := Hid.mk' (show s4a f n (p3 + 1) = p3 + 1 from if_neg (by rw [HB.out]; simp))
      go_wp2_with fail
      refine (digits_any w a n cap (p3 + 1) f _ (by omega) H.out hn).mono ?_
      rintro e w' ⟨rfl, hw⟩
      subst w'
      go_wp2_with fail
      go_ret
      exact ⟨ret_int' (by rw [← HRES.out, HN3.out, HF.out, HG.out]), rfl⟩

set_option maxHeartbeats 400000 in
theorem zznum_any (w : World) (a : Option Addr) (n cap : Nat) (f : Nat → Int) (p : Nat) (h : Bs w a n cap f) (hn : n ≤ 4194304) (hp : p ≤ 9223372036854775807) :
    Calls Try.prog 18 #[.slice a n cap, .int .i64 p] w fun e w' => e = .returned (.int .i64 (num f n p)) ∧ w' = w := by
  have H := Hid.mk' h; clear h
  go_enter Try.func18, Try.ntmps18
  go_wp2_with fail
  refine (num_any w a n cap p f H.out hn hp).mono ?_
  rintro e w' ⟨rfl, hw⟩
  subst w'
  go_wp2_with fail
  go_ret
  exact ⟨rfl, rfl⟩
end Go.Proofs.Qxb6600349a
