import Derived.Test.Qxb6600349aRows
import Derived.Test.Qxb6600349aBytes
import Derived.Test.Qxb6600349aEscLaw
import Derived.WalkKit
import Derived.WalkSpells
import Derived.WalkLawsBesides
namespace Go.Proofs.Qxb6600349a
open Go.RowKit

theorem ret_int {k : IntKind} {a b : Int} (h : a = b) : Ending.returned (.int k a) = .returned (.int k b) := by rw [h]

set_option maxHeartbeats 400000 in
theorem esc_end (w : World) (a : Option Addr) (n cap : Nat) :
    Calls Try.prog 23 #[.slice a n cap, .int .i64 n] w fun e w' => e = .returned (.int .i64 (-1)) ∧ w' = w := by
  have hq : ((n : Int) == (n : Int)) = true := by simp
  go_enter Try.func23, Try.ntmps23
  go_wp2
  go_ret
  exact ⟨rfl, rfl⟩

set_option maxHeartbeats 400000 in
theorem esc_at (w : World) (b off n cap p : Nat) (c : Int) (hn : n ≤ 4194304) (hp : p < n) (hc : w.cell? ⟨b, off + p, none⟩ = some (.int .u8 c)) (h117 : (c == 117) = false) :
    Calls Try.prog 23 #[.slice (some ⟨b, off, none⟩) n cap, .int .i64 p] w fun e w' => e = .returned (.int .i64 (escAt c p)) ∧ w' = w := by
  have hq : ((p : Int) == (n : Int)) = false := by simp; omega
  go_enter Try.func23, Try.ntmps23
  go_wp2
  · go_ret; exact ⟨ret_int (escAt_34 (by assumption)), rfl⟩
  · go_ret; exact ⟨ret_int (escAt_92 (by assumption)), rfl⟩
  · go_ret; exact ⟨ret_int (escAt_47 (by assumption)), rfl⟩
  · go_ret; exact ⟨ret_int (escAt_98 (by assumption)), rfl⟩
  · go_ret; exact ⟨ret_int (escAt_102 (by assumption)), rfl⟩
  · go_ret; exact ⟨ret_int (escAt_110 (by assumption)), rfl⟩
  · go_ret; exact ⟨ret_int (escAt_114 (by assumption)), rfl⟩
  · go_ret; exact ⟨ret_int (escAt_116 (by assumption)), rfl⟩
  · go_ret; exact ⟨ret_int (escAt_no (by assumption) (by assumption) (by assumption) (by assumption) (by assumption) (by assumption) (by assumption) (by assumption)), rfl⟩

set_option maxHeartbeats 400000 in
theorem esc_u_short (w : World) (b off n cap p : Nat) (hn : n ≤ 4194304) (hp : p < n) (hs : n - p < 5) (hc : w.cell? ⟨b, off + p, none⟩ = some (.int .u8 117)) :
    Calls Try.prog 23 #[.slice (some ⟨b, off, none⟩) n cap, .int .i64 p] w fun e w' => e = .returned (.int .i64 (-1)) ∧ w' = w := by
  have hq : ((p : Int) == (n : Int)) = false := by simp; omega
  go_enter Try.func23, Try.ntmps23
  go_wp2
  go_ret
  exact ⟨rfl, rfl⟩

set_option maxHeartbeats 800000 in
theorem esc_u_long (w : World) (b off n cap p : Nat) (f : Nat → Int) (hn : n ≤ 4194304) (hp : p < n) (hs : 5 ≤ n - p) (hcap : n ≤ cap) (hc : w.cell? ⟨b, off + p, none⟩ = some (.int .u8 117))
    (hx : ∀ i, i < n → w.cell? ⟨b, off + i, none⟩ = some (.int .u8 (f i))) (hr : ∀ i, i < n → 0 ≤ f i ∧ f i ≤ 255) :
    Calls Try.prog 23 #[.slice (some ⟨b, off, none⟩) n cap, .int .i64 p] w fun e w' => e = .returned (.int .i64 (if hex4 f p = true then (p : Int) + 5 else -1)) ∧ w' = w := by
  have HX : Hid (∀ i, i < n → w.cell? ⟨b, off + i, none⟩ = some (.int .u8 (f i))) := hx; clear hx
  have HR : Hid (∀ i, i < n → 0 ≤ f i ∧ f i ≤ 255) := hr; clear hr
  generalize hres : (if hex4 f p = true then (p : Int) + 5 else -1) = res
  have HRES : Hid ((if hex4 f p = true then (p : Int) + 5 else -1) = res) := hres; clear hres
  have hq : ((p : Int) == (n : Int)) = false := by simp; omega
  go_enter Try.func23, Try.ntmps23
  go_wp2_with fail
  go_loop [4, 6, 40] (fun _ _ i => ∃ k : Nat, k ≤ 4 ∧ i = .int .i64 k ∧ Hid (∀ j, j < k → hexB (f (p + 1 + j)) = true)) (fun _ _ i => 4 - (intOf i).toNat)
  case atStart => exact ⟨0, Nat.zero_le _, rfl, fun j hj => absurd hj (Nat.not_lt_zero _)⟩
  case round =>
    obtain ⟨k, hk, rfl, HK⟩ := hrel
    by_cases hk4 : k < 4
    · have hcx := HX.out (p + 1 + k) (by omega)
      rw [show off + (p + 1 + k) = off + (p + 1) + k from by omega] at hcx
      have hrx := HR.out (p + 1 + k) (by omega)
      generalize hcc : f (p + 1 + k) = c at *
      have HCC : Hid (f (p + 1 + k) = c) := hcc; clear hcc
      have hno : hexB c = false → Hid (-1 = res) := fun h => by rw [← HRES.out, hex4_not k hk4 (by rw [HCC.out]; exact h)]; rfl
      have hyes : hexB c = true → Hid (∀ j, j < k + 1 → hexB (f (p + 1 + j)) = true) := fun h j hj => by
        by_cases hjk : j = k
        · subst hjk; rw [HCC.out]; exact h
        · exact HK.out j (by omega)
      have hcase : (48 ≤ c ∧ c ≤ 57) ∨ (97 ≤ c ∧ c ≤ 102) ∨ (65 ≤ c ∧ c ≤ 70) ∨ c < 48 ∨ (57 < c ∧ c < 65) ∨ (70 < c ∧ c < 97) ∨ 102 < c := by omega
      rcases hcase with ⟨h1, h2⟩ | ⟨h1, h2⟩ | ⟨h1, h2⟩ | h1 | ⟨h1, h2⟩ | ⟨h1, h2⟩ | h1
      · have H := hyes (by unfold hexB; simp; omega)
        clear hno hyes
        have d1 : decide (48 ≤ c) = true := by simp; omega
        have d2 : decide (c ≤ 57) = true := by simp; omega
        go_wp2_with fail
        go_round
        case rel => exact ⟨k + 1, by omega, by go_num, H⟩
        case measure => simp [intOf]; omega
      · have H := hyes (by unfold hexB; simp; omega)
        clear hno hyes
        have d1 : decide (48 ≤ c) = true := by simp; omega
        have d2 : decide (c ≤ 57) = false := by simp; omega
        have d3 : decide (97 ≤ c) = true := by simp; omega
        have d4 : decide (c ≤ 102) = true := by simp; omega
        go_wp2_with fail
        go_round
        case rel => exact ⟨k + 1, by omega, by go_num, H⟩
        case measure => simp [intOf]; omega
      · have H := hyes (by unfold hexB; simp; omega)
        clear hno hyes
        have d1 : decide (48 ≤ c) = true := by simp; omega
        have d2 : decide (c ≤ 57) = false := by simp; omega
        have d3 : decide (97 ≤ c) = false := by simp; omega
        have d4 : decide (65 ≤ c) = true := by simp; omega
        have d5 : decide (c ≤ 70) = true := by simp; omega
        go_wp2_with fail
        go_round
        case rel => exact ⟨k + 1, by omega, by go_num, H⟩
        case measure => simp [intOf]; omega
      · have H := hno (by unfold hexB; simp; omega)
        clear hno hyes
        have d1 : decide (48 ≤ c) = false := by simp; omega
        have d3 : decide (97 ≤ c) = false := by simp; omega
        have d4 : decide (65 ≤ c) = false := by simp; omega
        go_wp2_with fail
        go_ret
        exact ⟨ret_int H.out, rfl⟩
      · have H := hno (by unfold hexB; simp; omega)
        clear hno hyes
        have d1 : decide (48 ≤ c) = true := by simp; omega
        have d2 : decide (c ≤ 57) = false := by simp; omega
        have d3 : decide (97 ≤ c) = false := by simp; omega
        have d4 : decide (65 ≤ c) = false := by simp; omega
        go_wp2_with fail
        go_ret
        exact ⟨ret_int H.out, rfl⟩
      · have H := hno (by unfold hexB; simp; omega)
        clear hno hyes
        have d1 : decide (48 ≤ c) = true := by simp; omega
        have d2 : decide (c ≤ 57) = false := by simp; omega
        have d3 : decide (97 ≤ c) = false := by simp; omega
        have d4 : decide (65 ≤ c) = true := by simp; omega
        have d5 : decide (c ≤ 70) = false := by simp; omega
        go_wp2_with fail
        go_ret
        exact ⟨ret_int H.out, rfl⟩
      · have H := hno (by unfold hexB; simp; omega)
        clear hno hyes
        have d1 : decide (48 ≤ c) = true := by simp; omega
        have d2 : decide (c ≤ 57) = false := by simp; omega
        have d3 : decide (97 ≤ c) = true := by simp; omega
        have d6 : decide (c ≤ 102) = false := by simp; omega
        have d4 : decide (65 ≤ c) = true := by simp; omega
        have d5 : decide (c ≤ 70) = false := by simp; omega
        go_wp2_with fail
        go_ret
        exact ⟨ret_int H.out, rfl⟩
    · obtain rfl : k = 4 := by omega
      have H : Hid ((p : Int) + 5 = res) := by rw [← HRES.out, if_pos (hex4_of HK.out)]; exact rfl
      go_wp2_with fail
      go_ret
      exact ⟨ret_int H.out, rfl⟩

/-- scanEscape answers 'esc' -/
theorem esc_any (w : World) (a : Option Addr) (n cap : Nat) (f : Nat → Int) (p : Nat) (h : Bs w a n cap f) (hn : n ≤ 4194304) (hp : p ≤ n) :
    Calls Try.prog 23 #[.slice a n cap, .int .i64 p] w fun e w' => e = .returned (.int .i64 (esc f n p)) ∧ w' = w := by
  by_cases h0 : p = n
  · subst h0
    rw [esc_end_eq]
    exact esc_end w a p cap
  · rcases h.cells with h1 | ⟨b, off, rfl, hlt, hc⟩
    · exfalso; omega
    · have hcp := hc p (by omega)
      by_cases hu : f p = 117
      · rw [hu] at hcp
        by_cases hs : n - p < 5
        · rw [esc_short (by omega) hu hs]
          exact esc_u_short w b off n cap p hn (by omega) hs hcp
        · rw [esc_hex (by omega) hu hs]
          exact esc_u_long w b off n cap p f hn (by omega) (by omega) h.le hcp hc h.rng
      · rw [esc_plain (by omega) hu]
        exact esc_at w b off n cap p (f p) hn (by omega) hcp (by simp [hu])

set_option maxHeartbeats 400000 in
theorem zzesc_any (w : World) (a : Option Addr) (n cap : Nat) (f : Nat → Int) (q : Int) (p : Nat) (h : Bs w a n cap f) (hn : n ≤ 4194304) (hq : q = p) (hp : p ≤ n) :
    Calls Try.prog 14 #[.slice a n cap, .int .i64 q] w fun e w' => e = .returned (.int .i64 (esc f n p)) ∧ w' = w := by
  subst hq
  have H : Hid (Bs w a n cap f) := h; clear h
  go_enter Try.func14, Try.ntmps14
  go_wp2_with fail
  refine (esc_any w a n cap f p H.out hn hp).mono ?_
  rintro e w' ⟨rfl, rfl⟩
  go_wp2_with fail
  go_ret
  exact ⟨rfl, rfl⟩

set_option maxHeartbeats 400000 in
theorem zb12_yes (w : World) (a0 : Option Addr) (n0 c0 : Nat) (a1 : Option Addr) (n1 c1 : Nat) (p : Int) (h : n0 + n1 ≤ 1048576) :
    Calls Try.prog 12 #[.slice a0 n0 c0, .slice a1 n1 c1, .int .i64 p] w fun e w' => e = .returned (.bool true) ∧ w' = w := by
  go_enter Try.func12, Try.ntmps12
  go_wp2
  go_ret
  exact ⟨rfl, rfl⟩
set_option maxHeartbeats 400000 in
theorem zb12_no (w : World) (a0 : Option Addr) (n0 c0 : Nat) (a1 : Option Addr) (n1 c1 : Nat) (p : Int) (h : 1048576 < n0 + n1) :
    Calls Try.prog 12 #[.slice a0 n0 c0, .slice a1 n1 c1, .int .i64 p] w fun e w' => e = .returned (.bool false) ∧ w' = w := by
  go_enter Try.func12, Try.ntmps12
  go_wp2
  all_goals
    go_ret
    exact ⟨rfl, rfl⟩
set_option maxHeartbeats 400000 in
theorem zb16_yes (w : World) (a0 : Option Addr) (n0 c0 : Nat) (a1 : Option Addr) (n1 c1 : Nat) (p : Int) (h : n0 + n1 ≤ 1048576) :
    Calls Try.prog 16 #[.slice a0 n0 c0, .slice a1 n1 c1, .int .i64 p] w fun e w' => e = .returned (.bool true) ∧ w' = w := by
  go_enter Try.func16, Try.ntmps16
  go_wp2
  go_ret
  exact ⟨rfl, rfl⟩
set_option maxHeartbeats 400000 in
theorem zb16_no (w : World) (a0 : Option Addr) (n0 c0 : Nat) (a1 : Option Addr) (n1 c1 : Nat) (p : Int) (h : 1048576 < n0 + n1) :
    Calls Try.prog 16 #[.slice a0 n0 c0, .slice a1 n1 c1, .int .i64 p] w fun e w' => e = .returned (.bool false) ∧ w' = w := by
  go_enter Try.func16, Try.ntmps16
  go_wp2
  all_goals
    go_ret
    exact ⟨rfl, rfl⟩
end Go.Proofs.Qxb6600349a
