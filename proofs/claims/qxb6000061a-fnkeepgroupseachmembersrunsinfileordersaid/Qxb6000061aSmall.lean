/-
  THE WALKS OF THE SMALL FUNCTIONS: minInt (38), keepMonth (39), keepHours (40), keepRate (41), keepRunRows (37), keepRunsBytes (36).
-/
import Derived.Test.Qxb6000061aMem
import Derived.WalkSpells
import Derived.WalkLawsBesides
namespace Go.Proofs.Qxb6000061a
open Go.RowKit

/-- the sum of the first k lengths -/
def sumTo (ln : Nat → Nat) : Nat → Nat
  | 0 => 0
  | k + 1 => sumTo ln k + ln k
theorem sumTo_le (ln : Nat → Nat) {n : Nat} (h : ∀ i, i < n → ln i ≤ 65535) : ∀ k, k ≤ n → sumTo ln k ≤ 65535 * k
  | 0, _ => Nat.le_refl _
  | k + 1, hk => by
    have h1 := sumTo_le ln h k (by omega)
    have h2 := h k (by omega)
    simp only [sumTo]; omega
theorem sumTo_mono (ln : Nat → Nat) {j k : Nat} (h : j ≤ k) : sumTo ln j ≤ sumTo ln k := by
  induction k with
  | zero => have : j = 0 := by omega
            subst this; exact Nat.le_refl _
  | succ k ih =>
    by_cases e : j = k + 1
    · subst e; exact Nat.le_refl _
    · have := ih (by omega)
      simp only [sumTo]; omega

/-- the month of the row at place g -/
def mon (mo : Nat → Int) (n g : Nat) : Int := if g < n then mo g else (g : Int)

set_option maxHeartbeats 400000 in
theorem min_any (w : World) (a b : Nat) :
    Calls Try.prog 38 #[.int .i64 a, .int .i64 b] w fun e w' => e = .returned (.int .i64 ((min a b : Nat) : Int)) ∧ w' = w := by
  by_cases h : a < b
  · rw [Nat.min_eq_left (by omega)]
    go_enter Try.func38, Try.ntmps38
    go_wp2
    go_ret
    exact ⟨rfl, rfl⟩
  · rw [Nat.min_eq_right (by omega)]
    go_enter Try.func38, Try.ntmps38
    go_wp2
    go_ret
    exact ⟨rfl, rfl⟩

set_option maxHeartbeats 400000 in
theorem month_any (w : World) (O : Nat → Prop) (a : Option Addr) (n cap g : Nat) (mo : Nat → Int) (q : Int) (hq : q = g) (h : Rd w O a n cap 1 (fun i => .int .i32 (mo i))) (hg : g ≤ 1048576) :
    Calls Try.prog 39 #[.slice a n cap, .int .i64 q] w fun e w' => e = .returned (.int .i32 (mon mo n g)) ∧ w' = w := by
  subst hq
  by_cases hlt : g < n
  · rcases h.cells with h0 | ⟨b, off, rfl, _, _, hc⟩
    · exfalso; omega
    · have hcx := hc g (by omega)
      clear hc h
      rw [show mon mo n g = mo g from if_pos hlt]
      go_enter Try.func39, Try.ntmps39
      go_wp2
      go_ret
      exact ⟨rfl, rfl⟩
  · clear h
    rw [show mon mo n g = (g : Int) from if_neg hlt]
    go_enter Try.func39, Try.ntmps39
    go_wp2
    go_ret
    exact ⟨rfl, rfl⟩

set_option maxHeartbeats 400000 in
theorem hours_any (w : World) (g : Nat) (q : Int) (hq : q = g) (hg : g ≤ 1048576) : Calls Try.prog 40 #[.int .i64 q] w fun e w' => e = .returned (.int .i64 ((g : Int) * 3 + 1)) ∧ w' = w := by
  subst hq
  go_enter Try.func40, Try.ntmps40
  go_wp2
  go_ret
  exact ⟨rfl, rfl⟩
set_option maxHeartbeats 400000 in
theorem rate_any (w : World) (g : Nat) (q : Int) (hq : q = g) (hg : g ≤ 1048576) : Calls Try.prog 41 #[.int .i64 q] w fun e w' => e = .returned (.int .i64 ((g : Int) * 5 + 2)) ∧ w' = w := by
  subst hq
  go_enter Try.func41, Try.ntmps41
  go_wp2
  go_ret
  exact ⟨rfl, rfl⟩

set_option maxHeartbeats 400000 in
theorem rows_any (w : World) (O : Nat → Prop) (a1 : Option Addr) (n1 c1 : Nat) (a2 : Option Addr) (n2 c2 : Nat) (ln : Nat → Nat) (h2 : Rd w O a2 n2 c2 1 (fun i => .int .u16 (ln i : Nat))) (hl : ∀ i, i < n2 → ln i ≤ 65535) (hn1 : n1 ≤ 1048576) :
    Calls Try.prog 37 #[.slice a1 n1 c1, .slice a2 n2 c2] w fun e w' => e = .returned (.int .i64 (sumTo ln (min n1 n2) : Nat)) ∧ w' = w := by
  have H2 := Hid.mk' h2; clear h2
  have HL := Hid.mk' hl; clear hl
  have hm1 : min n1 n2 ≤ n1 := Nat.min_le_left _ _
  have hm2 : min n1 n2 ≤ n2 := Nat.min_le_right _ _
  generalize hmin : min n1 n2 = n at *
  have HM := Hid.mk' hmin; clear hmin
  go_enter Try.func37, Try.ntmps37
  go_wp2_with fail
  refine (min_any w n1 n2).mono ?_
  rintro e w' ⟨rfl, hw⟩
  subst w'
  rw [HM.out]
  go_wp2_with fail
  go_loop [6, 7] (fun s i => ∃ k : Nat, k ≤ n ∧ i = .int .i64 k ∧ s = .int .i64 (sumTo ln k : Nat)) (fun _ i => n - (intOf i).toNat)
  case atStart => exact ⟨0, Nat.zero_le _, rfl, rfl⟩
  case round =>
    obtain ⟨k, hk, rfl, rfl⟩ := hrel
    have hs := sumTo_le ln HL.out k (by omega)
    by_cases hlt : k < n
    · rcases H2.out.cells with h0 | ⟨b, off, rfl, _, _, hc⟩
      · exfalso; omega
      · have hcx := hc k (by omega)
        have hkl := HL.out k (by omega)
        clear hc
        have hss : Hid (sumTo ln (k + 1) = sumTo ln k + ln k) := rfl
        go_wp2_with fail
        go_round
        case rel => exact ⟨k + 1, by omega, by go_num, by rw [hss.out]; go_num⟩
        case measure => simp [intOf]; omega
    · obtain rfl : k = n := by omega
      go_wp2_with fail
      go_ret
      exact ⟨rfl, rfl⟩

/-- what keepRunsBytes tells -/
def BytesTold (n1 n2 : Nat) (e : Ending) : Prop := ∃ (b : Nat) (ok : Bool), e = .returned (.tuple #[.int .i64 b, .bool ok]) ∧ b ≤ 1048576 ∧ (ok = true → n1 ≤ 65536 ∧ n2 ≤ 524288)

set_option maxHeartbeats 1000000 in
theorem bytes_any (w : World) (O : Nat → Prop) (a1 : Option Addr) (n1 c1 : Nat) (a2 : Option Addr) (n2 c2 : Nat) (nm : Nat → ByteArray) (h1 : Rd w O a1 n1 c1 1 (fun i => .string (nm i))) (hs : ∀ i, i < n1 → (nm i).size ≤ maxLen) (hn1 : n1 ≤ 1048576) (hn2 : n2 ≤ 1048576) :
    Calls Try.prog 36 #[.slice a1 n1 c1, .slice a2 n2 c2] w fun e w' => BytesTold n1 n2 e ∧ w' = w := by
  have H1 := Hid.mk' h1; clear h1
  have HS := Hid.mk' hs; clear hs
  by_cases hb1 : 65536 < n1
  · have d1 : decide ((65536 : Int) < (n1 : Int)) = true := by simp; omega
    go_enter Try.func36, Try.ntmps36
    go_wp2_with fail
    go_ret2
    exact ⟨⟨0, false, rfl, by omega, (by intro h; cases h)⟩, rfl⟩
  · have d1 : decide ((65536 : Int) < (n1 : Int)) = false := by simp; omega
    by_cases hb2 : 524288 < n2
    · go_enter Try.func36, Try.ntmps36
      go_wp2_with fail
      go_ret2
      exact ⟨⟨0, false, rfl, by omega, (by intro h; cases h)⟩, rfl⟩
    · by_cases hb3 : 1048576 < 16 * n1 + 2 * n2
      · go_enter Try.func36, Try.ntmps36
        go_wp2_with fail
        go_ret2
        exact ⟨⟨0, false, rfl, by omega, (by intro h; cases h)⟩, rfl⟩
      · go_enter Try.func36, Try.ntmps36
        go_wp2_with fail
        go_loop [4, 5, 6, 7] (fun _ _ s i => ∃ k t : Nat, k ≤ n1 ∧ i = .int .i64 k ∧ s = .int .i64 t ∧ t ≤ 1048576) (fun _ _ _ i => n1 - (intOf i).toNat)
        case atStart => exact ⟨0, 16 * n1 + 2 * n2, Nat.zero_le _, rfl, by go_num, by omega⟩
        case round =>
          obtain ⟨k, t, hk, rfl, rfl, ht⟩ := hrel
          by_cases hlt : k < n1
          · rcases H1.out.cells with h0 | ⟨b, off, rfl, _, _, hc⟩
            · exfalso; omega
            · have hcx := hc k (by omega)
              have hsk := HS.out k (by omega)
              unfold maxLen at hsk
              clear hc
              generalize nm k = s at *
              by_cases hbig : 1048576 < s.size
              · go_wp2_with fail
                go_ret2
                exact ⟨⟨0, false, rfl, by omega, (by intro h; cases h)⟩, rfl⟩
              · by_cases hbig2 : 1048576 < t + s.size
                · go_wp2_with fail
                  go_ret2
                  exact ⟨⟨0, false, rfl, by omega, (by intro h; cases h)⟩, rfl⟩
                · go_wp2_with fail
                  go_round
                  case rel => exact ⟨k + 1, t + s.size, by omega, by go_num, by go_num, by omega⟩
                  case measure => simp [intOf]; omega
          · obtain rfl : k = n1 := by omega
            go_wp2_with fail
            go_ret2
            exact ⟨⟨t, true, rfl, ht, (fun _ => ⟨by omega, by omega⟩)⟩, rfl⟩
end Go.Proofs.Qxb6000061a
