import Derived.Test.Qxb6600349aRows
import Derived.Test.Qxb6600349aEightLaw
import Derived.WalkKit
import Derived.WalkSpells
import Derived.WalkLawsBesides
namespace Go.Proofs.Qxb6600349a
open Go.RowKit

theorem ret_pair {k : IntKind} {a b : Int} {c : Bool} (h : a = b) : Ending.returned (.tuple #[.int k a, .bool c]) = .returned (.tuple #[.int k b, .bool c]) := by rw [h]

theorem int_eq {k : IntKind} {a b : Int} (h : a = b) : Value.int k a = .int k b := by rw [h]

set_option maxHeartbeats 400000 in
theorem f22_yes (x : Int) (hf : Eight.flag x = false) (w : World) :
    Calls Try.prog 22 #[.int .u64 x] w fun e w' => e = .returned (.tuple #[.int .i64 (Eight.val x), .bool true]) ∧ w' = w := by
  unfold Eight.flag at hf
  go_enter Try.func22, Try.ntmps22
  go_wp2
  go_ret2
  exact ⟨ret_pair (by unfold Eight.val Eight.e3 Eight.e2 Eight.e1 Eight.dOf; rfl), rfl⟩

set_option maxHeartbeats 400000 in
theorem f10_yes (x : Int) (hf : Eight.flag x = false) (w : World) :
    Calls Try.prog 10 #[.int .u64 x] w fun e w' => e = .returned (.tuple #[.int .i64 (Eight.val x), .bool true]) ∧ w' = w := by
  have H : Hid (Eight.flag x = false) := hf; clear hf
  go_enter Try.func10, Try.ntmps10
  go_wp2_with fail
  refine (f22_yes x H.out _).mono ?_
  rintro e w' ⟨rfl, rfl⟩
  go_wp2
  go_ret2
  exact ⟨rfl, rfl⟩

set_option maxHeartbeats 400000 in
theorem f4_small (n : Nat) (hn : n ≤ 99999999) (w : World) :
    Calls Try.prog 4 #[.int .u32 n] w fun e w' => e = .returned (.bool true) ∧ w' = w := by
  go_enter Try.func4, Try.ntmps4
  go_wp2_with fail
  go_loop [3, 4, 5] (fun x m i => ∃ k : Nat, k ≤ 8 ∧ x = .int .u64 (Eight.spell n k : Nat) ∧ m = .int .u32 (n / 10 ^ k : Nat) ∧ i = .int .i64 (7 - k)) (fun _ _ i => (intOf i + 1).toNat)
  case atStart => exact ⟨0, by omega, rfl, by simp, rfl⟩
  case round =>
    obtain ⟨k, hk, rfl, rfl, rfl⟩ := hrel
    have hq : n / 10 ^ k ≤ n := Nat.div_le_self _ _
    by_cases hlt : k < 8
    · go_wp2_with fail
      go_round
      case rel =>
        refine ⟨k + 1, by omega, ?_, ?_, ?_⟩
        · exact int_eq (Eight.step_x n k hlt)
        · exact int_eq (Eight.step_m n k hn)
        · exact int_eq (by omega)
      case measure => simp [intOf]; omega
    · obtain rfl : k = 8 := by omega
      have hv := Eight.spell_val n hn
      have HV : Hid (Eight.val (Eight.spell n 8 : Nat) = n) := hv; clear hv
      go_wp2_with fail
      refine (f10_yes _ (Eight.spell_flag n) _).mono ?_
      rintro e w' ⟨rfl, rfl⟩
      rw [HV.out]
      go_wp2
      go_ret
      exact ⟨rfl, rfl⟩

set_option maxHeartbeats 400000 in
theorem f4_big (n : Int) (hn : 99999999 < n) (w : World) :
    Calls Try.prog 4 #[.int .u32 n] w fun e w' => e = .returned (.bool true) ∧ w' = w := by
  go_enter Try.func4, Try.ntmps4
  go_wp2
  go_ret
  exact ⟨rfl, rfl⟩
end Go.Proofs.Qxb6600349a
